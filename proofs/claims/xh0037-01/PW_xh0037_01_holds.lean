import PyProof.Rows.All
import Wide.All
import OpenK.AllK
import Wide.FinOn
import PySem.Challenge.RW_xh0037_01
open PySem PySem.W PySem.Calls PyProof.Rows
open List (append_assoc append_nil concat_eq_append cons_append cons_ne_nil drop_eq_getElem_cons drop_of_length_le drop_sublist eq_nil_or_concat flatMap_append flatMap_cons flatMap_nil foldl_append foldl_cons forall_mem_cons getD_eq_getElem?_getD getElem?_append_left getElem?_append_right getElem?_drop getElem?_eq_getElem getElem?_map getElem?_range getElem_mem length_append length_cons length_drop length_map length_mapIdx length_nil length_range length_singleton length_take length_take_le' lookup_cons map_append map_congr_left map_cons map_drop map_flatMap map_map map_take mem_append mem_append_left mem_append_right mem_cons mem_cons_of_mem mem_cons_self mem_filter mem_flatMap mem_map mem_map_of_mem mem_of_getElem? mem_of_mem_drop mem_of_mem_take mem_singleton nil_append nodup_append nodup_cons nodup_nil not_mem_nil pairwise_cons pairwise_map range' replicate_succ size_toArray sublist_cons_self sum_cons take take_append_drop take_of_length_le)
open Nat (add_assoc add_comm add_le_add add_le_add_left add_le_add_right add_right_comm add_sub_of_le add_zero div_add_mod le_add_left le_add_right le_antisymm le_of_eq le_of_lt le_of_lt_succ le_of_succ_le le_refl le_sub_one_of_lt le_succ le_trans lt_irrefl lt_of_le_of_lt lt_of_le_of_ne lt_of_lt_of_le lt_of_succ_lt lt_or_ge lt_succ_of_le lt_succ_self lt_trans min_eq_left min_le_right mul_le_mul_left mul_succ mul_two ne_of_gt ne_of_lt not_lt_zero one_pos sub_add_cancel sub_le sub_lt sub_lt_sub_left sub_self sub_zero succ_le_succ succ_pos zero_add zero_le)
open Int (natCast_nonneg neg_lt_neg toNat_lt toNat_natCast)
set_option Elab.async false
set_option linter.unusedVariables false
set_option maxRecDepth 100000
set_option compiler.extract_closed false
set_option autoImplicit false
set_option maxHeartbeats 8000000
set_option tactic.hygienic false
namespace Mine
section
noncomputable abbrev Pool := Addr -> Option Obj
inductive AV where
 | none
 | bool (b : Bool)
 | int (i : Int)
 | str (x : Str)
 | val (v : Value)
 | tuple (ds : List AV)
 | list (ds : List AV)
 | wlist (ds : List AV)
 | dict (es : List (Int × AV))
 | obj (o : Obj)
 | fn (fd : FuncData)
 | inst (k : Addr) (x : Str) (d : AV)
noncomputable abbrev listO (vs : List Value) (n : Nat) : Obj := { cls := .type "list", data := .seq vs.toArray n }
noncomputable abbrev tupO (vs : List Value) (n : Nat) : Obj := { cls := .type "tuple", data := .seq vs.toArray n }
inductive CodeP (P : Pool) (cd : Value) (q : Str) : Prop
 | intro (c : Addr) (o : Obj) (vs : Array Value) (t : Tok) (e : cd = .ref c) (h : P c = some o) (hd : o.data = .fields vs) (hq : vs[1]? = some (.str q t))
mutual
inductive VR (P : Pool) : Value -> AV -> Prop
 | none : VR P Value.none AV.none
 | bool (b : Bool) : VR P (Value.bool b) (AV.bool b)
 | int (i : Int) (t : Tok) : VR P (Value.int i t) (AV.int i)
 | str (x : Str) (t : Tok) : VR P (Value.str x t) (AV.str x)
 | val (v : Value) : VR P v (AV.val v)
 | tuple {a : Addr} {o : Obj} {vs : List Value} {n : Nat} {ds : List AV} : P a = some o -> o.cls = .type "tuple" -> o.data = .seq vs.toArray n -> VRs P vs ds -> VR P (Value.ref a) (AV.tuple ds)
 | list {a : Addr} {vs : List Value} {n : Nat} {ds : List AV} : P a = some (listO vs n) -> VRs P vs ds -> VR P (Value.ref a) (AV.list ds)
 | wlist {a : Addr} {o : Obj} {vs : List Value} {n : Nat} {ds : List AV} : P a = some o -> o.cls = .type "list" -> o.data = .seq vs.toArray n -> VRs P vs ds -> VR P (Value.ref a) (AV.wlist ds)
 | dict {a : Addr} {o : Obj} {es : List DictEntry} {n : Nat} {ds : List (Int × AV)} : P a = some o -> (a == sysModules) = false -> o.ExactDict -> o.data = .dict es.toArray n -> VRd P es ds -> (ds.map (·.1)).Nodup -> VR P (Value.ref a) (AV.dict ds)
 | obj {a : Addr} {o : Obj} : P a = some o -> VR P (Value.ref a) (AV.obj o)
 | fn {a : Addr} {o : Obj} {fd : FuncData} : P a = some o -> o.data = .func fd -> CodeP P fd.code fd.qualname -> VR P (Value.ref a) (AV.fn fd)
 | inst {a dx k : Addr} {es : List DictEntry} {n : Nat} {x : Str} {v : Value} {d : AV} : P a = some (instObj k dx) -> P dx = some (dictOf es n) -> getL x es = some (some v) -> (∀ y, y ≠ x -> getL y es = some Option.none) -> VR P v d -> VR P (Value.ref a) (AV.inst k x d)
inductive VRs (P : Pool) : List Value -> List AV -> Prop
 | nil : VRs P [] []
 | cons {v : Value} {vs : List Value} {d : AV} {ds : List AV} : VR P v d -> VRs P vs ds -> VRs P (v :: vs) (d :: ds)
inductive VRd (P : Pool) : List DictEntry -> List (Int × AV) -> Prop
 | nil : VRd P [] []
 | cons {e : DictEntry} {es : List DictEntry} {k : Int} {t : Tok} {d : AV} {ds : List (Int × AV)} : e.key = .int k t -> e.hash = hashInt k -> VR P e.val d -> VRd P es ds -> VRd P (e :: es) ((k, d) :: ds)
end
noncomputable def PLe (P P' : Pool) : Prop := ∀ a o, P a = some o -> P' a = some o
theorem PLe.refl (P : Pool) : PLe P P := fun _ _ e => e
theorem PLe.trans {P Q R : Pool} (x : PLe P Q) (y : PLe Q R) : PLe P R := fun a o e => y a o (x a o e)
theorem CodeP.mono {P P' : Pool} (hp : PLe P P') {cd : Value} {q : Str} (h : CodeP P cd q) : CodeP P' cd q :=
 by obtain ⟨c, o, vs, t, e, g, r, r'⟩ := h; exact ⟨c, o, vs, t, e, hp _ _ g, r, r'⟩
inductive VRsC (P : Pool) (vs : List Value) (d : AV) (ds : List AV) : Prop
 | intro (v : Value) (ws : List Value) (e : vs = v :: ws) (r : VR P v d) (h : VRs P ws ds)
inductive VRdC (P : Pool) (es : List DictEntry) (k : Int) (d : AV) (ds : List (Int × AV)) : Prop
 | intro (e : DictEntry) (fs : List DictEntry) (t : Tok) (he : es = e :: fs) (hk : e.key = .int k t) (hh : e.hash = hashInt k) (r : VR P e.val d) (h : VRd P fs ds)
theorem VRs.nil_inv {P : Pool} {vs : List Value} (h : VRs P vs []) : vs = [] := by cases h; rfl
theorem VRs.cons_inv {P : Pool} {vs : List Value} {d : AV} {ds : List AV} (h : VRs P vs (d :: ds)) : VRsC P vs d ds := by cases h; exact ⟨_, _, rfl, by assumption, by assumption⟩
theorem VRd.nil_inv {P : Pool} {es : List DictEntry} (h : VRd P es []) : es = [] := by cases h; rfl
theorem VRd.cons_inv {P : Pool} {es : List DictEntry} {k : Int} {d : AV} {ds : List (Int × AV)} (h : VRd P es ((k, d) :: ds)) : VRdC P es k d ds := by cases h; exact ⟨_, _, _, rfl, by assumption, by assumption, by assumption, by assumption⟩
theorem VRs.ind {P : Pool} {m : ∀ (vs : List Value) (ds : List AV), VRs P vs ds -> Prop} (nil : m [] [] .nil) (cons : ∀ {v vs d ds} (h : VR P v d) (r : VRs P vs ds), m vs ds r -> m (v :: vs) (d :: ds) (.cons h r)) {vs : List Value} {ds : List AV} (h : VRs P vs ds) : m vs ds h := by
 induction ds generalizing vs with
 | nil => obtain rfl := h.nil_inv; exact nil
 | cons d ds ih => obtain ⟨v, ws, rfl, r, h'⟩ := h.cons_inv; exact cons r h' (ih h')
theorem VRd.ind {P : Pool} {m : ∀ (es : List DictEntry) (ds : List (Int × AV)), VRd P es ds -> Prop} (nil : m [] [] .nil) (cons : ∀ {e es k t d ds} (hk : e.key = .int k t) (hh : e.hash = hashInt k) (h : VR P e.val d) (r : VRd P es ds), m es ds r -> m (e :: es) ((k, d) :: ds) (.cons hk hh h r)) {es : List DictEntry} {ds : List (Int × AV)} (h : VRd P es ds) : m es ds h := by
 induction ds generalizing es with
 | nil => obtain rfl := h.nil_inv; exact nil
 | cons p ds ih => obtain ⟨e, fs, t, rfl, hk, hh, r, h'⟩ := VRd.cons_inv (k := p.1) (d := p.2) h; exact cons hk hh r h' (ih h')
theorem VR.mono {P P' : Pool} (hp : PLe P P') {v : Value} {d : AV} (h : VR P v d) : VR P' v d :=
 VR.rec (motive_1 := fun v d _ => VR P' v d) (motive_2 := fun vs ds _ => VRs P' vs ds) (motive_3 := fun es ds _ => VRd P' es ds)
   .none .bool .int .str .val (fun h c d _ r => .tuple (hp _ _ h) c d r) (fun h _ r => .list (hp _ _ h) r) (fun h c d _ r => .wlist (hp _ _ h) c d r) (fun h q c d _ nd r => .dict (hp _ _ h) q c d r nd)
   (fun h => .obj (hp _ _ h)) (fun h d c => .fn (hp _ _ h) d (c.mono hp)) (fun h1 h2 h3 h4 _ r => .inst (hp _ _ h1) (hp _ _ h2) h3 h4 r) .nil (fun _ _ h r => .cons h r) .nil (fun k e _ _ h r => .cons k e h r) h
theorem VRs.mono {P P' : Pool} (hp : PLe P P') {vs : List Value} {ds : List AV} (h : VRs P vs ds) : VRs P' vs ds := by
 induction h using VRs.ind with
 | nil => exact .nil
 | cons h _ ih => exact .cons (h.mono hp) ih
theorem VRd.mono {P P' : Pool} (hp : PLe P P') {es : List DictEntry} {ds : List (Int × AV)} (h : VRd P es ds) : VRd P' es ds := by
 induction h using VRd.ind with
 | nil => exact .nil
 | cons k e h _ ih => exact .cons k e (h.mono hp) ih
section
variable {P : Pool} {v : Value}
inductive SeqV (T : String) (P : Pool) (v : Value) (ds : List AV) : Prop
 | intro (a : Addr) (o : Obj) (vs : List Value) (n : Nat) (e : v = .ref a) (h : P a = some o) (hc : o.cls = .type T) (hd : o.data = .seq (List.toArray vs) n) (r : VRs P vs ds)
inductive ListV (P : Pool) (v : Value) (ds : List AV) : Prop
 | intro (a : Addr) (vs : List Value) (n : Nat) (e : v = .ref a) (h : P a = some (listO vs n)) (r : VRs P vs ds)
inductive DictV (P : Pool) (v : Value) (ds : List (Int × AV)) : Prop
 | intro (a : Addr) (o : Obj) (es : List DictEntry) (n : Nat) (e : v = .ref a) (h : P a = some o) (q : (a == sysModules) = false) (hx : o.ExactDict) (hd : o.data = .dict (List.toArray es) n) (r : VRd P es ds) (nd : (ds.map (·.1)).Nodup)
inductive ObjV (P : Pool) (v : Value) (o : Obj) : Prop
 | intro (a : Addr) (e : v = .ref a) (h : P a = some o)
inductive FnV (P : Pool) (v : Value) (fd : FuncData) : Prop
 | intro (a : Addr) (o : Obj) (e : v = .ref a) (h : P a = some o) (hd : o.data = .func fd) (hc : CodeP P fd.code fd.qualname)
inductive InstV (P : Pool) (v : Value) (k : Addr) (x : Str) (d : AV) : Prop
 | intro (a dx : Addr) (es : List DictEntry) (n : Nat) (u : Value) (e : v = .ref a) (h : P a = some (instObj k dx)) (hd : P dx = some (dictOf es n)) (hg : getL x es = some (some u)) (hn : ∀ y, y ≠ x -> getL y es = some Option.none) (r : VR P u d)
noncomputable def VRI (P : Pool) (v : Value) : AV -> Prop
 | .none => v = .none
 | .bool b => v = .bool b
 | .int i => ∃ t, v = .int i t
 | .str x => ∃ t, v = .str x t
 | .val u => v = u
 | .tuple ds => SeqV "tuple" P v ds
 | .list ds => ListV P v ds
 | .wlist ds => SeqV "list" P v ds
 | .dict ds => DictV P v ds
 | .obj o => ObjV P v o
 | .fn fd => FnV P v fd
 | .inst k x d => InstV P v k x d
theorem VR.inv {d : AV} (h : VR P v d) : VRI P v d := by
 cases h with
 | none => rfl
 | bool => rfl
 | int => exact ⟨_, rfl⟩
 | str => exact ⟨_, rfl⟩
 | val => rfl
 | tuple h1 h2 h3 h4 => exact ⟨_, _, _, _, rfl, h1, h2, h3, h4⟩
 | list h1 h2 => exact ⟨_, _, _, rfl, h1, h2⟩
 | wlist h1 h2 h3 h4 => exact ⟨_, _, _, _, rfl, h1, h2, h3, h4⟩
 | dict h1 h2 h3 h4 h5 h6 => exact ⟨_, _, _, _, rfl, h1, h2, h3, h4, h5, h6⟩
 | obj h => exact ⟨_, rfl, h⟩
 | fn h1 h2 h3 => exact ⟨_, _, rfl, h1, h2, h3⟩
 | inst h1 h2 h3 h4 h5 => exact ⟨_, _, _, _, _, rfl, h1, h2, h3, h4, h5⟩
theorem VR.none_inv (h : VR P v .none) : v = .none := h.inv
theorem VR.bool_inv {b : Bool} (h : VR P v (.bool b)) : v = .bool b := h.inv
theorem VR.int_inv {i : Int} (h : VR P v (.int i)) : ∃ t, v = .int i t := h.inv
theorem VR.str_inv {x : Str} (h : VR P v (.str x)) : ∃ t, v = .str x t := h.inv
theorem VR.val_inv {u : Value} (h : VR P v (.val u)) : v = u := h.inv
theorem VR.tuple_inv {ds : List AV} (h : VR P v (.tuple ds)) : SeqV "tuple" P v ds := h.inv
theorem VR.list_inv {ds : List AV} (h : VR P v (.list ds)) : ListV P v ds := h.inv
theorem VR.wlist_inv {ds : List AV} (h : VR P v (.wlist ds)) : SeqV "list" P v ds := h.inv
theorem VR.dict_inv {ds : List (Int × AV)} (h : VR P v (.dict ds)) : DictV P v ds := h.inv
theorem VR.dictP {a : Addr} {ds : List (Int × AV)} (h : VR P (.ref a) (.dict ds)) : ∃ o, P a = some o := by obtain ⟨b, o, _, _, e, h, _⟩ := h.dict_inv; cases e; exact ⟨o, h⟩
theorem VR.obj_inv {o : Obj} (h : VR P v (.obj o)) : ObjV P v o := h.inv
theorem VR.fn_inv {fd : FuncData} (h : VR P v (.fn fd)) : FnV P v fd := h.inv
theorem VR.inst_inv {k : Addr} {x : Str} {d : AV} (h : VR P v (.inst k x d)) : InstV P v k x d := h.inv
inductive VRs1 (P : Pool) (vs : List Value) (a : AV) : Prop
 | intro (v : Value) (e : vs = [v]) (r : VR P v a)
inductive VRs2 (P : Pool) (vs : List Value) (a b : AV) : Prop
 | intro (v u : Value) (e : vs = [v, u]) (r : VR P v a) (r' : VR P u b)
inductive VRs3 (P : Pool) (vs : List Value) (a b c : AV) : Prop
 | intro (v u w : Value) (e : vs = [v, u, w]) (r : VR P v a) (r' : VR P u b) (r'' : VR P w c)
theorem VRs.inv1 {vs : List Value} {a : AV} (h : VRs P vs [a]) : VRs1 P vs a := by
 obtain ⟨v, ws, e, r, h'⟩ := h.cons_inv; exact ⟨v, e.trans (congrArg _ h'.nil_inv), r⟩
theorem VRs.inv2 {vs : List Value} {a b : AV} (h : VRs P vs [a, b]) : VRs2 P vs a b := by
 obtain ⟨v, ws, e, r, h'⟩ := h.cons_inv; obtain ⟨u, e', r'⟩ := h'.inv1; exact ⟨v, u, e.trans (congrArg _ e'), r, r'⟩
theorem VRs.inv3 {vs : List Value} {a b c : AV} (h : VRs P vs [a, b, c]) : VRs3 P vs a b c := by
 obtain ⟨v, ws, e, r, h'⟩ := h.cons_inv; obtain ⟨u, w, e', r', r''⟩ := h'.inv2; exact ⟨v, u, w, e.trans (congrArg _ e'), r, r', r''⟩
theorem VRs.inv4 {vs : List Value} {a b c d : AV} (h : VRs P vs [a, b, c, d]) : ∃ v u w x, vs = [v, u, w, x] /\ VR P v a /\ VR P u b /\ VR P w c /\ VR P x d := by
 obtain ⟨v, ws, e, r, h'⟩ := h.cons_inv; obtain ⟨u, w, x, e', r', r'', q⟩ := h'.inv3; exact ⟨v, u, w, x, e.trans (congrArg _ e'), r, r', r'', q⟩
end
inductive AEnt where
 | ns (m : List (Str × Option AV))
 | cell (v : Option AV)
 | list (ds : List AV)
 | wlist (ds : List AV)
 | dict (es : List (Int × AV))
 | obj (o : Obj)
 | tab (al : List (Pos × Str))
inductive NsE (P : Pool) (h : Heap) (a : Addr) (m : List (Str × Option AV)) : Prop
 | intro (nd : (m.map (·.1)).Nodup) (m' : Str -> Option Value) (h1 : h.Ns a m') (h2 : ∀ x av, (x, some av) ∈ m -> ∃ v, m' x = some v /\ VR P v av)
inductive CellE (P : Pool) (h : Heap) (a : Addr) (ov : Option AV) : Prop
 | intro (v' : Option Value) (h1 : h.IsCell a v') (h2 : ∀ av, ov = some av -> ∃ v, v' = some v /\ VR P v av)
inductive ListE (P : Pool) (h : Heap) (a : Addr) (ds : List AV) : Prop
 | intro (vs : List Value) (n : Nat) (h1 : h.get? a = some (listO vs n)) (h2 : VRs P vs ds)
inductive WListE (P : Pool) (h : Heap) (a : Addr) (ds : List AV) : Prop
 | intro (o : Obj) (vs : List Value) (n : Nat) (h1 : h.get? a = some o) (h2 : o.cls = .type "list") (h3 : o.data = .seq (List.toArray vs) n) (h4 : VRs P vs ds)
inductive DictE (P : Pool) (h : Heap) (a : Addr) (ds : List (Int × AV)) : Prop
 | intro (q : (a == sysModules) = false) (o : Obj) (es : List DictEntry) (n : Nat) (h1 : h.get? a = some o) (h2 : o.ExactDict) (h3 : o.data = .dict (List.toArray es) n) (h4 : VRd P es ds) (h5 : (ds.map (·.1)).Nodup)
inductive TabE (P : Pool) (h : Heap) (a : Addr) (al : List (Pos × Str)) : Prop
 | intro (ps : Array Value) (h1 : h.get? a = some (tabObj ps)) (h2 : TriplesOk ps.toList) (h3 : ∀ pos cv q, codeAmong pos ps.toList = some cv -> (pos, q) ∈ al -> CodeP P cv q)
noncomputable def EntAt (P : Pool) (h : Heap) (a : Addr) : AEnt -> Prop
 | .ns m => NsE P h a m
 | .cell ov => CellE P h a ov
 | .list ds => ListE P h a ds
 | .wlist ds => WListE P h a ds
 | .dict ds => DictE P h a ds
 | .obj o => h.get? a = some o
 | .tab al => TabE P h a al
theorem EntAt.mono {P P' : Pool} {h : Heap} {a : Addr} {e : AEnt} (hp : PLe P P') (x : EntAt P h a e) : EntAt P' h a e := by
 cases e with
 | ns m => obtain ⟨nd, m', h1, h2⟩ := x; exact ⟨nd, m', h1, fun x av hm => let ⟨v, e, r⟩ := h2 x av hm; ⟨v, e, r.mono hp⟩⟩
 | cell ov => obtain ⟨m', h1, h2⟩ := x; exact ⟨m', h1, fun av hm => let ⟨v, e, r⟩ := h2 av hm; ⟨v, e, r.mono hp⟩⟩
 | list ds => obtain ⟨vs, n, h1, h4⟩ := x; exact ⟨vs, n, h1, h4.mono hp⟩
 | wlist ds => obtain ⟨o, vs, n, h1, h2, h3, h4⟩ := x; exact ⟨o, vs, n, h1, h2, h3, h4.mono hp⟩
 | dict ds => obtain ⟨q, o, vs, n, h1, h2, h3, h4, h5⟩ := x; exact ⟨q, o, vs, n, h1, h2, h3, h4.mono hp, h5⟩
 | obj o => exact x
 | tab al => obtain ⟨ps, h1, h2, h3⟩ := x; exact ⟨ps, h1, h2, fun pos cv q e m => (h3 pos cv q e m).mono hp⟩
theorem EntAt.keep {P : Pool} {h h' : Heap} {a : Addr} {e : AEnt} (hk : ∀ o, h.get? a = some o -> h'.get? a = some o) (x : EntAt P h a e) : EntAt P h' a e := by
 cases e with
 | ns m => obtain ⟨nd, m', h1, h2⟩ := x; exact ⟨nd, m', h1.at' hk, h2⟩
 | cell ov => obtain ⟨m', ⟨o, h1, h1'⟩, h2⟩ := x; exact ⟨m', ⟨o, hk _ h1, h1'⟩, h2⟩
 | list ds => obtain ⟨vs, n, h1, h2⟩ := x; exact ⟨vs, n, hk _ h1, h2⟩
 | wlist ds => obtain ⟨o, vs, n, h1, h2, h3, h4⟩ := x; exact ⟨o, vs, n, hk _ h1, h2, h3, h4⟩
 | dict ds => obtain ⟨q, o, vs, n, h1, h2, h3, h4, h5⟩ := x; exact ⟨q, o, vs, n, hk _ h1, h2, h3, h4, h5⟩
 | obj o => exact hk _ x
 | tab al => obtain ⟨ps, h1, h2, h3⟩ := x; exact ⟨ps, hk _ h1, h2, h3⟩
theorem EntAt.get {P : Pool} {h : Heap} {a : Addr} {e : AEnt} (x : EntAt P h a e) : ∃ o, h.get? a = some o := by
 cases e with
 | ns m => obtain ⟨nd, m', ⟨o, _, _, h1, _⟩, h2⟩ := x; exact ⟨o, h1⟩
 | cell ov => obtain ⟨m', ⟨o, h1, h1'⟩, h2⟩ := x; exact ⟨o, h1⟩
 | list ds => obtain ⟨vs, n, h1, h2⟩ := x; exact ⟨_, h1⟩
 | wlist ds => obtain ⟨o, vs, n, h1, h2⟩ := x; exact ⟨o, h1⟩
 | dict ds => obtain ⟨q, o, vs, n, h1, h2⟩ := x; exact ⟨o, h1⟩
 | obj o => exact ⟨_, x⟩
 | tab al => obtain ⟨ps, h1, h2⟩ := x; exact ⟨_, h1⟩
noncomputable abbrev St := List (Addr × AEnt)
structure Cx where
 prog : Program
 w : World
 s₀ : Shared
 P₀ : Pool
structure Sat (C : Cx) (P : Pool) (σ : St) (s : Shared) : Prop where
 base : PLe C.P₀ P
 pool : ∀ a o, P a = some o -> s.heap.get? a = some o
 off : ∀ p ∈ σ, P p.1 = none
 ents : ∀ p ∈ σ, EntAt P s.heap p.1 p.2
 nd : (σ.map (·.1)).Nodup
 os : s.os = C.s₀.os
 gens : s.gens = C.s₀.gens
theorem Sat.toks {C : Cx} {P : Pool} {σ : St} {s : Shared} (S : Sat C P σ s) (tk : Nat) : Sat C P σ { s with toks := tk } :=
 ⟨S.base, S.pool, S.off, S.ents, S.nd, S.os, S.gens⟩
theorem Sat.heap {C : Cx} {P : Pool} {σ : St} {s : Shared} (S : Sat C P σ s) {h' : Heap} (tk : Nat) (hk : ∀ b o, s.heap.get? b = some o -> h'.get? b = some o) : Sat C P σ { s with heap := h', toks := tk } :=
 ⟨S.base, fun a o e => hk _ _ (S.pool a o e), S.off, fun p hp => (S.ents p hp).keep fun o e => hk _ _ e, S.nd, S.os, S.gens⟩
theorem Sat.at {C : Cx} {P : Pool} {σ₁ σ₂ : St} {a : Addr} {e e' : AEnt} {s : Shared} (S : Sat C P (σ₁ ++ (a, e) :: σ₂) s) {h' : Heap} (tk : Nat)
   (hk : ∀ b o, b ≠ a -> s.heap.get? b = some o -> h'.get? b = some o) (he : EntAt P h' a e') : Sat C P (σ₁ ++ (a, e') :: σ₂) { s with heap := h', toks := tk } := by
 have hnd := S.nd; rw [map_append, map_cons] at hnd
 have hne : ∀ p ∈ σ₁ ++ σ₂, p.1 ≠ a := by
   intro p hp e; rcases List.mem_append.mp hp with hp | hp
   . exact (List.nodup_append.mp hnd).2.2 p.1 (mem_map_of_mem hp) a mem_cons_self e
   . exact (List.nodup_cons.mp (List.nodup_append.mp hnd).2.1).1 (List.mem_map.mpr ⟨p, hp, e⟩)
 have hoff := S.off (a, e) (mem_append_right _ mem_cons_self)
 have hmem : ∀ p, p ∈ σ₁ ++ (a, e') :: σ₂ -> p = (a, e') \/ (p ∈ σ₁ ++ σ₂ /\ p ∈ σ₁ ++ (a, e) :: σ₂) := by
   intro p hp; rcases List.mem_append.mp hp with hp | hp
   . exact .inr ⟨mem_append_left _ hp, mem_append_left _ hp⟩
   . rcases List.mem_cons.mp hp with hp | hp
     . exact .inl hp
     . exact .inr ⟨mem_append_right _ hp, mem_append_right _ (mem_cons_of_mem _ hp)⟩
 refine ⟨S.base, fun b o e' => hk _ _ (fun q => by rw [q, hoff] at e'; cases e') (S.pool b o e'), fun p hp => ?_, fun p hp => ?_, ?_, S.os, S.gens⟩
 . rcases hmem p hp with rfl | ⟨h1, h2⟩
   . exact hoff
   . exact S.off p h2
 . rcases hmem p hp with rfl | ⟨h1, h2⟩
   . exact he
   . exact (S.ents p h2).keep fun o e => hk _ _ (hne p h1) e
 . rw [map_append, map_cons]; exact hnd
theorem Sat.none_of_fresh {C : Cx} {P : Pool} {σ : St} {s : Shared} (S : Sat C P σ s) {a : Addr} (ha : s.heap.get? a = none) : P a = none /\ a ∉ σ.map (·.1) := by
 constructor
 . cases h : P a with
   | none => rfl
   | some o => rw [S.pool _ _ h] at ha; cases ha
 . intro hm; obtain ⟨p, hp, rfl⟩ := List.mem_map.mp hm; obtain ⟨o, ho⟩ := (S.ents p hp).get; rw [ho] at ha; cases ha
theorem Sat.new {C : Cx} {P : Pool} {σ : St} {s : Shared} (S : Sat C P σ s) {a : Addr} {e : AEnt} (ha : s.heap.get? a = none) {h' : Heap} (tk : Nat)
   (hk : ∀ b o, s.heap.get? b = some o -> h'.get? b = some o) (he : EntAt P h' a e) : Sat C P ((a, e) :: σ) { s with heap := h', toks := tk } := by
 have S' := S.heap tk hk; obtain ⟨h1, h2⟩ := S.none_of_fresh ha; refine ⟨S'.base, S'.pool, fun p hp => ?_, fun p hp => ?_, ?_, S'.os, S'.gens⟩
 . rcases List.mem_cons.mp hp with rfl | hp
   . exact h1
   . exact S'.off p hp
 . rcases List.mem_cons.mp hp with rfl | hp
   . exact he
   . exact S'.ents p hp
 . rw [map_cons]; exact List.nodup_cons.mpr ⟨h2, S.nd⟩
noncomputable def addP (P : Pool) (a : Addr) (o : Obj) : Pool := fun b => if b = a then some o else P b
theorem addP_self (P : Pool) (a : Addr) (o : Obj) : addP P a o a = some o := by simp [addP]
theorem addP_le {P : Pool} {a : Addr} (o : Obj) (h : P a = none) : PLe P (addP P a o) := fun b o' e => by
 by_cases hb : b = a
 . subst hb; rw [h] at e; cases e
 . simp [addP, hb, e]
set_option tactic.hygienic true in
theorem Sat.frozen {C : Cx} {P : Pool} {σ : St} {s : Shared} (S : Sat C P σ s) {a : Addr} {o : Obj} (ha : P a = none) (hm : a ∉ σ.map (·.1)) (ho : s.heap.get? a = some o) : Sat C (addP P a o) σ s := by
 have hle := addP_le o ha; refine ⟨S.base.trans hle, fun b o' e => ?_, fun p hp => ?_, fun p hp => (S.ents p hp).mono hle, S.nd, S.os, S.gens⟩
 . unfold addP at e; split at e
   . rename_i hb; cases e; rw [hb]; exact ho
   . exact S.pool _ _ e
 . unfold addP; rw [if_neg fun e => hm (List.mem_map.mpr ⟨p, hp, e⟩)]; exact S.off p hp
theorem Sat.sub {C : Cx} {P : Pool} {σ σ' : St} {s : Shared} (S : Sat C P σ s) (h : σ'.Sublist σ) : Sat C P σ' s :=
 ⟨S.base, S.pool, fun p hp => S.off p (h.subset hp), fun p hp => S.ents p (h.subset hp), S.nd.sublist (h.map _), S.os, S.gens⟩
theorem Sat.perm {C : Cx} {P : Pool} {σ σ' : St} {s : Shared} (S : Sat C P σ s) (h : σ'.Perm σ) : Sat C P σ' s :=
 ⟨S.base, S.pool, fun p hp => S.off p (h.subset hp), fun p hp => S.ents p (h.subset hp), (h.map _).nodup_iff.mpr S.nd, S.os, S.gens⟩
inductive FrzO (C : Cx) (P : Pool) (σ : St) (a : Addr) (s : Shared) : Prop
 | intro (o : Obj) (h : s.heap.get? a = some o) (S : Sat C (addP P a o) σ s) (l : PLe P (addP P a o))
theorem Sat.freeze {C : Cx} {P : Pool} {σ : St} {s : Shared} {a : Addr} {e : AEnt} (S : Sat C P ((a, e) :: σ) s) : FrzO C P σ a s := by
 obtain ⟨o, ho⟩ := (S.ents _ mem_cons_self).get; have h1 := S.off _ mem_cons_self; have hnd := S.nd; rw [map_cons] at hnd; exact ⟨o, ho, (S.sub (sublist_cons_self _ _)).frozen h1 (List.nodup_cons.mp hnd).1 ho, addP_le o h1⟩
inductive Post {α β : Type} (R : Pool -> α -> β -> Prop) (C : Cx) (P : Pool) (Q : β -> St -> Prop) (v : α) (s' : Shared) : Prop
 | intro (P' : Pool) (b : β) (σ' : St) (l : PLe P P') (S : Sat C P' σ' s') (r : R P' v b) (q : Q b σ')
noncomputable def Wp {α β : Type} (R : Pool -> α -> β -> Prop) (C : Cx) (A : Around) (t : Sem α) (σ : St) (Q : β -> St -> Prop) : Prop :=
 ∀ P s, Sat C P σ s -> wpAny (model C.prog C.w) A t (Post R C P Q) (fun _ _ => False) s
noncomputable abbrev Ev := Wp VR
noncomputable abbrev Evs := Wp VRs
noncomputable abbrev Eu := Wp (fun _ (_ _ : Unit) => True)
noncomputable abbrev Eb := Wp (fun _ (a b : Bool) => a = b)
inductive AFlow where
 | next | brk | cont
 | ret (d : AV)
inductive FR (P : Pool) : Flow -> AFlow -> Prop
 | next : FR P .next .next
 | brk : FR P .brk .brk
 | cont : FR P .cont .cont
 | ret {v : Value} {d : AV} : VR P v d -> FR P (.ret v) (.ret d)
noncomputable abbrev Ef := Wp FR
theorem Post.imp {α β : Type} {R : Pool -> α -> β -> Prop} {C : Cx} {P P' : Pool} {Q Q' : β -> St -> Prop} {v : α} {s' : Shared} (l : PLe P' P) (hQ : ∀ b σ', Q b σ' -> Q' b σ') (h : Post R C P Q v s') : Post R C P' Q' v s' := by
 obtain ⟨P1, b, σ', h1, h2, h3, h4⟩ := h; exact ⟨P1, b, σ', l.trans h1, h2, h3, hQ _ _ h4⟩
theorem Wp.mono {α β : Type} {R : Pool -> α -> β -> Prop} {C : Cx} {A : Around} {t : Sem α} {σ : St} {Q Q' : β -> St -> Prop} (h : Wp R C A t σ Q) (hQ : ∀ b σ', Q b σ' -> Q' b σ') : Wp R C A t σ Q' :=
 fun P s S => wpAny_mono (h P s S) (fun _ _ h => h.imp (PLe.refl _) hQ) fun _ _ x => x
theorem Wp.sub {α β : Type} {R : Pool -> α -> β -> Prop} {C : Cx} {A : Around} {t : Sem α} {σ σ' : St} {Q : β -> St -> Prop} (h : Wp R C A t σ' Q) (hs : σ'.Sublist σ) : Wp R C A t σ Q :=
 fun P s S => h P s (S.sub hs)
theorem Wp.perm {α β : Type} {R : Pool -> α -> β -> Prop} {C : Cx} {A : Around} {t : Sem α} {σ σ' : St} {Q : β -> St -> Prop} (h : Wp R C A t σ' Q) (hs : σ'.Perm σ) : Wp R C A t σ Q :=
 fun P s S => h P s (S.perm hs)
theorem Wp.cps {α β : Type} {R : Pool -> α -> β -> Prop} {C : Cx} {A : Around} {t : Sem α} {σ : St} {Q : β -> St -> Prop} (h : ∀ K : β -> St -> Prop, (∀ b σ', Q b σ' -> K b σ') -> Wp R C A t σ K) : Wp R C A t σ Q := h Q fun _ _ x => x
theorem if_t {c : Prop} [Decidable c] {a b : Prop} (h : c) (x : a) : if c then a else b := by rw [if_pos h]; exact x
theorem if_f {c : Prop} [Decidable c] {a b : Prop} (h : ¬ c) (x : b) : if c then a else b := by rw [if_neg h]; exact x
theorem len0 {α : Type} {l : List α} (h : l.length = 0) : l = [] := List.eq_nil_of_length_eq_zero h
theorem lenS {α : Type} {l : List α} {n : Nat} (h : l.length = n + 1) : ∃ a m, l = a :: m /\ m.length = n := by
 cases l with
 | nil => cases h
 | cons a m => exact ⟨a, m, rfl, Nat.succ.inj h⟩
theorem len1 {α : Type} {l : List α} (h : l.length = 1) : ∃ a, l = [a] := by
 obtain ⟨a, m, rfl, h'⟩ := lenS h; exact ⟨a, by rw [len0 h']⟩
theorem len2 {α : Type} {l : List α} (h : l.length = 2) : ∃ a b, l = [a, b] := by
 obtain ⟨a, m, rfl, h'⟩ := lenS h; obtain ⟨b, rfl⟩ := len1 h'; exact ⟨a, b, rfl⟩
theorem len3 {α : Type} {l : List α} (h : l.length = 3) : ∃ a b c, l = [a, b, c] := by
 obtain ⟨a, m, rfl, h'⟩ := lenS h; obtain ⟨b, c, rfl⟩ := len2 h'; exact ⟨a, b, c, rfl⟩
theorem len4 {α : Type} {l : List α} (h : l.length = 4) : ∃ a b c d, l = [a, b, c, d] := by
 obtain ⟨a, m, rfl, h'⟩ := lenS h; obtain ⟨b, c, d, rfl⟩ := len3 h'; exact ⟨a, b, c, d, rfl⟩
theorem len5 {α : Type} {l : List α} (h : l.length = 5) : ∃ a b c d e, l = [a, b, c, d, e] := by
 obtain ⟨a, m, rfl, h'⟩ := lenS h; obtain ⟨b, c, d, e, rfl⟩ := len4 h'; exact ⟨a, b, c, d, e, rfl⟩
inductive L14 {α : Type} : List α -> Prop
 | mk (a b c d e f g h i j k m n o : α) : L14 [a, b, c, d, e, f, g, h, i, j, k, m, n, o]
theorem len14 {α : Type} {l : List α} (hl : l.length = 14) : L14 l := by
 have h1 : (l.take 5).length = 5 := by rw [length_take, hl]; rfl
 have h2 : ((l.drop 5).take 5).length = 5 := by rw [length_take, length_drop, hl]; rfl
 have h3 : ((l.drop 5).drop 5).length = 4 := by rw [length_drop, length_drop, hl]
 obtain ⟨a, b, c, d, e, e1⟩ := len5 h1; obtain ⟨f, g, h, i, j, e2⟩ := len5 h2; obtain ⟨k, m, n, o, e3⟩ := len4 h3; rw [<- take_append_drop 5 l, e1, <- take_append_drop 5 (l.drop 5), e2, e3]; exact .mk a b c d e f g h i j k m n o
theorem szle {n : Nat} (h : Nat.ble n 16777216 = true) : n <= sizeLine := by rw [sizeLine_eq]; exact Nat.le_of_ble_eq_true h
theorem szm {α β : Type} {l : List α} {f : α -> β} (h : l.length <= 16777216) : (l.map f).length <= sizeLine := by rw [length_map, sizeLine_eq]; exact h
end
variable {Q : AV -> St -> Prop}
section
theorem emB (z : Int) {n : Int} (h : 0 < n) : 0 <= z % n /\ z % n < n := ⟨Int.emod_nonneg _ (Int.ne_of_gt h), Int.emod_lt_of_pos _ h⟩
theorem emT (z : Int) {n : Int} (h : 0 < n) : z % n = ((z % n).toNat : Nat) := (Int.toNat_of_nonneg (emB z h).1).symm
theorem nat4 : ∀ n, n < 4 -> n = 0 \/ n = 1 \/ n = 2 \/ n = 3 := by decide
theorem int4 {z : Int} (h : 0 <= z /\ z < 4) : z = 0 \/ z = 1 \/ z = 2 \/ z = 3 := by
 obtain ⟨n, rfl⟩ := Int.eq_ofNat_of_zero_le h.1; exact (nat4 n (Int.ofNat_lt.mp h.2)).imp (congrArg _) (Or.imp (congrArg _) (Or.imp (congrArg _) (congrArg _)))
theorem nat2 : ∀ n, n < 2 -> n = 0 \/ n = 1 := by decide
theorem int2 {z : Int} (h : 0 <= z /\ z < 2) : z = 0 \/ z = 1 := by
 obtain ⟨n, rfl⟩ := Int.eq_ofNat_of_zero_le h.1; exact (nat2 n (Int.ofNat_lt.mp h.2)).imp (congrArg _) (congrArg _)
theorem sy3 {s : Int} (h : 256 <= s /\ s <= 258) : s = 256 \/ s = 257 \/ s = 258 := by
 rcases int4 ⟨Int.sub_nonneg.mpr h.1, Int.sub_right_lt_of_lt_add (show s < 4 + 256 from Int.lt_of_le_of_lt h.2 (by decide))⟩ with e | e | e | e
 . exact .inl (Int.sub_eq_zero.mp e)
 . exact .inr (.inl (Int.sub_eq_iff_eq_add.mp e))
 . exact .inr (.inr (Int.sub_eq_iff_eq_add.mp e))
 . rw [Int.sub_eq_iff_eq_add.mp e] at h; exact absurd h.2 (by decide)
theorem sy48 (z : Int) : 7 <= 7 + z % 48 /\ 7 + z % 48 < 55 := ⟨Int.le_add_of_nonneg_right (emB z (by decide)).1, Int.add_lt_add_left (emB z (by decide)).2 7⟩
theorem tn48 {s : Int} (h : 7 <= s) (h' : s < 55) : (s - 7).toNat < 48 /\ ((s - 7).toNat : Int) = s - 7 :=
 ⟨(toNat_lt (Int.sub_nonneg.mpr h)).mpr (Int.sub_right_lt_of_lt_add h'), Int.toNat_of_nonneg (Int.sub_nonneg.mpr h)⟩
theorem szle' {n : Nat} (h : n <= 16777216) : n <= sizeLine := by rw [sizeLine_eq]; exact h
theorem of_nd_f {p : Prop} [Decidable p] (h : (!decide p) = false) : p := Decidable.byContradiction fun n => by rw [decide_eq_false n] at h; cases h
theorem of_nd_t {p : Prop} [Decidable p] (h : (!decide p) = true) : ¬ p := fun n => by rw [decide_eq_true n] at h; cases h
theorem sub_s {i k : Nat} (h : k < i) : i - k = i - (k + 1) + 1 := (sub_add_cancel (Nat.sub_pos_of_lt h)).symm
theorem rad {b i j X Y : Int} (hX : 0 <= X /\ X < b) (hY : 0 <= Y /\ Y < b) (h : b * i + X = b * j + Y) : i = j /\ X = Y := by
 have hb : b ≠ 0 := Int.ne_of_gt (Int.lt_of_le_of_lt hX.1 hX.2)
 have e := congrArg (· / b) h
 simp only [Int.mul_add_ediv_left _ _ hb, Int.ediv_eq_zero_of_lt hX.1 hX.2, Int.ediv_eq_zero_of_lt hY.1 hY.2, Int.add_zero] at e; exact ⟨e, Int.add_left_cancel (e ▸ h)⟩
theorem rad8 {j k j' k' : Nat} (hk : k < 8) (hk' : k' < 8) (h : 8 * (j : Int) + k = 8 * (j' : Int) + k') : j = j' /\ k = k' :=
 (rad (b := 8) ⟨natCast_nonneg k, Int.ofNat_lt.mpr hk⟩ ⟨natCast_nonneg k', Int.ofNat_lt.mpr hk'⟩ h).imp Int.ofNat.inj Int.ofNat.inj
theorem opB {x : Int} (h : 7 <= x /\ x < 55) : 1 <= x /\ x < 512 := ⟨Int.le_trans (by decide) h.1, Int.lt_trans h.2 (by decide)⟩
theorem opN {x y : Int} (h : 7 <= x /\ x < 55) (hy : 55 <= y) : ¬ x = y := Int.ne_of_lt (Int.lt_of_lt_of_le h.2 hy)
theorem mid2 {l r : Nat} (h : l < r) : l <= (l + r) / 2 /\ (l + r) / 2 < r :=
 ⟨(Nat.le_div_iff_mul_le (by decide)).mpr (by rw [mul_two]; exact add_le_add_left (le_of_lt h) l), Nat.div_lt_of_lt_mul (by rw [Nat.two_mul]; exact Nat.add_lt_add_right h r)⟩
theorem lt63 {z : Int} (h : z < 16777216) : z < 2 ^ 63 := Int.lt_trans h (by decide)
end
section
theorem Post.le {α β : Type} {R : Pool -> α -> β -> Prop} {C : Cx} {P P₁ : Pool} {Q : β -> St -> Prop} {v : α} {s' : Shared} (l : PLe P P₁) (h : Post R C P₁ Q v s') : Post R C P Q v s' :=
 h.imp l fun _ _ x => x
theorem Post.mk {α β : Type} {R : Pool -> α -> β -> Prop} {C : Cx} {P : Pool} {Q : β -> St -> Prop} {v : α} {s' : Shared} {b : β} {σ' : St} (S : Sat C P σ' s') (r : R P v b) (q : Q b σ') : Post R C P Q v s' :=
 ⟨P, b, σ', PLe.refl _, S, r, q⟩
noncomputable abbrev No : Value -> Shared -> Prop := fun _ _ => False
theorem Wp.run {α β : Type} {R : Pool -> α -> β -> Prop} {C : Cx} {A : Around} {t : Sem α} {σ : St} {Q : β -> St -> Prop} (h : Wp R C A t σ Q) {P : Pool} {s : Shared} (S : Sat C P σ s) {K : α -> Shared -> Prop} {E : Value -> Shared -> Prop}
   (k : ∀ P' v b σ' s', PLe P P' -> Sat C P' σ' s' -> R P' v b -> Q b σ' -> K v s') : wpAny (model C.prog C.w) A t K E s :=
 wpAny_mono (h P s S) (fun v s' h => by obtain ⟨P', b, σ', h1, h2, h3, h4⟩ := h; exact k P' v b σ' s' h1 h2 h3 h4) fun _ _ x => x.elim
theorem Wp.post {α β : Type} {R : Pool -> α -> β -> Prop} {C : Cx} {A : Around} {t : Sem α} {σ : St} {Q : β -> St -> Prop} (h : Wp R C A t σ Q) {P : Pool} {s : Shared} (S : Sat C P σ s) : wpAny (model C.prog C.w) A t (Post R C P Q) No s := h P s S
theorem Wp.postLe {α β : Type} {R : Pool -> α -> β -> Prop} {C : Cx} {A : Around} {t : Sem α} {σ : St} {Q : β -> St -> Prop} (h : Wp R C A t σ Q) {P₀ P : Pool} {s : Shared} (l : PLe P₀ P) (S : Sat C P σ s) : wpAny (model C.prog C.w) A t (Post R C P₀ Q) No s :=
 wpAny_mono (h P s S) (fun _ _ x => Post.le l x) fun _ _ x => x
theorem weakPost {α β : Type} {R : Pool -> α -> β -> Prop} {C : Cx} {A : Around} {t : Sem α} {Q : β -> St -> Prop} {P₀ P : Pool} {s : Shared} (l : PLe P₀ P) (h : wpAny (model C.prog C.w) A t (Post R C P Q) No s) : wpAny (model C.prog C.w) A t (Post R C P₀ Q) No s :=
 wpAny_mono h (fun _ _ x => Post.le l x) fun _ _ x => x
noncomputable def Op1 {α β : Type} (R : Pool -> α -> β -> Prop) (C : Cx) (A : Around) (f : Value -> Sem α) (a : AV) (σ : St) (Q : β -> St -> Prop) : Prop :=
 ∀ P s v, Sat C P σ s -> VR P v a -> wpAny (model C.prog C.w) A (f v) (Post R C P Q) No s
noncomputable def Op2 {α β : Type} (R : Pool -> α -> β -> Prop) (C : Cx) (A : Around) (f : Value -> Value -> Sem α) (a b : AV) (σ : St) (Q : β -> St -> Prop) : Prop :=
 ∀ P s v u, Sat C P σ s -> VR P v a -> VR P u b -> wpAny (model C.prog C.w) A (f v u) (Post R C P Q) No s
noncomputable def Op3 {α β : Type} (R : Pool -> α -> β -> Prop) (C : Cx) (A : Around) (f : Value -> Value -> Value -> Sem α) (a b c : AV) (σ : St) (Q : β -> St -> Prop) : Prop :=
 ∀ P s v u w, Sat C P σ s -> VR P v a -> VR P u b -> VR P w c -> wpAny (model C.prog C.w) A (f v u w) (Post R C P Q) No s
noncomputable def OpN {α β : Type} (R : Pool -> α -> β -> Prop) (C : Cx) (A : Around) (f : List Value -> Sem α) (as : List AV) (σ : St) (Q : β -> St -> Prop) : Prop :=
 ∀ P s vs, Sat C P σ s -> VRs P vs as -> wpAny (model C.prog C.w) A (f vs) (Post R C P Q) No s
@[reducible] noncomputable def op1K {α β : Type} (R : Pool -> α -> β -> Prop) (C : Cx) (A : Around) (f : Value -> Sem α) (Q : β -> St -> Prop) (a : AV) (σ : St) : Prop := Op1 R C A f a σ Q
@[reducible] noncomputable def op2K (C : Cx) (A : Around) (f : Value -> Value -> Sem Value) (Q : AV -> St -> Prop) (a b : AV) (σ : St) : Prop := Op2 VR C A f a b σ Q
@[reducible] noncomputable def thenE (C : Cx) (A : Around) (env : Env) (r : Expr) (K : AV -> AV -> St -> Prop) (a : AV) (σ : St) : Prop := Ev C A (eval r env) σ (K a)
@[reducible] noncomputable def nextK {α : Type} (Q : AFlow -> St -> Prop) (_ : α) (σ : St) : Prop := Q .next σ
theorem Op1.mono {α β : Type} {R : Pool -> α -> β -> Prop} {C : Cx} {A : Around} {f : Value -> Sem α} {a : AV} {σ : St} {Q Q' : β -> St -> Prop} (h : Op1 R C A f a σ Q) (hQ : ∀ b σ', Q b σ' -> Q' b σ') : Op1 R C A f a σ Q' :=
 fun P s v S r => wpAny_mono (h P s v S r) (fun _ _ h => h.imp (PLe.refl _) hQ) fun _ _ x => x
theorem OpN.mono {α β : Type} {R : Pool -> α -> β -> Prop} {C : Cx} {A : Around} {f : List Value -> Sem α} {a : List AV} {σ : St} {Q Q' : β -> St -> Prop} (h : OpN R C A f a σ Q) (hQ : ∀ b σ', Q b σ' -> Q' b σ') : OpN R C A f a σ Q' :=
 fun P s v S r => wpAny_mono (h P s v S r) (fun _ _ h => h.imp (PLe.refl _) hQ) fun _ _ x => x
structure EnvIs (env : Env) (L : Addr) (names : List (Str × NameKind)) (cells : List (Str × Addr)) : Prop where
 kind : env.scope.kind = .function
 isLoc : ∀ x, (x, .local) ∈ names -> env.kindOf x = some .local
 isCell : ∀ x, (x, .cell) ∈ names -> env.kindOf x = some .cell
 isFree : ∀ x, (x, .free) ∈ names -> env.kindOf x = some .cell \/ env.kindOf x = some .free
 isGlob : ∀ x, (x, .globalImplicit) ∈ names -> env.kindOf x = some .globalImplicit
 nodbg : ("__debug__" : Str) ∉ names.map (·.1)
 nocls : ("__classdict__" : Str) ∉ names.map (·.1)
 loc : env.locals = L
 glob : env.globals = mainGlobals
 blt : env.builtins = builtinsNs
 cells : ∀ x c, (x, c) ∈ cells -> env.cells.lookup x = some c
theorem lookup_of_mem {α : Type} {l : List (Str × α)} {x : Str} {k : α} (hn : (l.map (·.1)).Nodup) (hm : (x, k) ∈ l) : l.lookup x = some k := by
 induction l with
 | nil => cases hm
 | cons p l ih =>
   obtain ⟨y, j⟩ := p; rw [map_cons, nodup_cons] at hn; rw [lookup_cons]; rcases List.mem_cons.mp hm with e | hm
   . cases e; simp
   . have : (x == y) = false := beq_eq_false_iff_ne.mpr fun e => hn.1 (e ▸ mem_map_of_mem (f := (·.1)) hm)
     rw [this]; exact ih hn.2 hm
section
variable {C : Cx} {A : Around} {σ σ' σ'' : St} {env : Env} {L : Addr} {names : List (Str × NameKind)} {cells : List (Str × Addr)} {x : Str} {pos pos' : Pos} {d : AV}
theorem EnvIs.dbg (hE : EnvIs env L names cells) {k : NameKind} (h : (x, k) ∈ names) : (x == ("__debug__" : Str)) = false :=
 beq_eq_false_iff_ne.mpr fun e => hE.nodbg (e ▸ mem_map_of_mem (f := (·.1)) h)
theorem EnvIs.cdict (hE : EnvIs env L names cells) {k : NameKind} (h : (x, k) ∈ names) : (x == ("__classdict__" : Str)) = false :=
 beq_eq_false_iff_ne.mpr fun e => hE.nocls (e ▸ mem_map_of_mem (f := (·.1)) h)
structure Gl (C : Cx) (glob : List (Str × AV)) : Prop where
 glob : ∀ h : Heap, (∀ a o, C.P₀ a = some o -> h.get? a = some o) -> ∃ mg mb, h.Ns mainGlobals mg /\ h.Ns builtinsNs mb /\ ∀ x d, (x, d) ∈ glob -> ∃ v, VR C.P₀ v d /\ (mg x = some v \/ (mg x = none /\ mb x = some v))
 nolimit : ∀ h : Heap, (∀ a o, C.P₀ a = some o -> h.get? a = some o) -> h.NoLimit
 sysm : ∃ (b₁ : Addr) (o : Obj), sysModules <= b₁ /\ C.P₀ b₁ = some o
theorem Sat.old {C : Cx} {P : Pool} {σ : St} {s : Shared} (S : Sat C P σ s) : ∀ a o, C.P₀ a = some o -> s.heap.get? a = some o := fun a o e => S.pool _ _ (S.base _ _ e)
theorem load_loc {m : List (Str × Option AV)} (hE : EnvIs env L names cells) (hk : (x, .local) ∈ names) (hs : (L, .ns m) ∈ σ) (hm : (x, some d) ∈ m) (hQ : Q d σ) : Ev C A (loadName env x) σ Q := by
 intro P s S; obtain ⟨nd, m', h1, h2⟩ := S.ents _ hs; obtain ⟨v, e, r⟩ := h2 x d hm; exact wpAny_loadName_local hE.kind (hE.isLoc _ hk) (hE.loc ▸ h1) e (Post.mk S r hQ)
theorem load_cell {c : Addr} (hE : EnvIs env L names cells) (hk : (x, .cell) ∈ names) (hc : (x, c) ∈ cells) (hs : (c, .cell (some d)) ∈ σ) (hQ : Q d σ) : Ev C A (loadName env x) σ Q := by
 intro P s S; obtain ⟨v', h1, h2⟩ := S.ents _ hs; obtain ⟨v, rfl, r⟩ := h2 d rfl; exact wpAny_loadName_cell hE.kind (hE.isCell _ hk) (hE.cells _ _ hc) h1 (Post.mk S r hQ)
theorem load_free {c : Addr} (hE : EnvIs env L names cells) (hk : (x, .free) ∈ names) (hc : (x, c) ∈ cells) (hs : (c, .cell (some d)) ∈ σ) (hQ : Q d σ) : Ev C A (loadName env x) σ Q := by
 intro P s S; obtain ⟨v', h1, h2⟩ := S.ents _ hs; obtain ⟨v, rfl, r⟩ := h2 d rfl; rcases hE.isFree _ hk with e | e
 . exact wpAny_loadName_cell hE.kind e (hE.cells _ _ hc) h1 (Post.mk S r hQ)
 . exact wpAny_loadName_free hE.kind e (hE.cells _ _ hc) h1 (Post.mk S r hQ) (hE.cdict hk)
theorem load_glob {glob : List (Str × AV)} (G : Gl C glob) (hE : EnvIs env L names cells) (hk : (x, .globalImplicit) ∈ names) (hg : (x, d) ∈ glob) (hQ : Q d σ) : Ev C A (loadName env x) σ Q := by
 intro P s S; obtain ⟨mg, mb, h1, h2, h3⟩ := G.glob s.heap (fun a o e => S.pool _ _ (S.base _ _ e)); obtain ⟨v, r, e⟩ := h3 x d hg; rw [loadName_read hE.kind (hE.isGlob _ hk)]; rcases e with e | ⟨e1, e2⟩
 . exact loadGlobal_global (hE.glob ▸ h1) e (Post.mk S (r.mono S.base) hQ)
 . exact loadGlobal_builtin (hE.glob ▸ h1) e1 (hE.blt ▸ h2) e2 (Post.mk S (r.mono S.base) hQ)
theorem ev_name (h : Ev C A (loadName env x) σ Q) (hd : (x == ("__debug__" : Str)) = false) : Ev C A (eval (.Name x pos) env) σ Q :=
 fun P s S => wpAny_Name (h.post S) hd
theorem name_loc {m : List (Str × Option AV)} (hE : EnvIs env L names cells) (hk : (x, .local) ∈ names) (hs : (L, .ns m) ∈ σ) (hm : (x, some d) ∈ m) (hQ : Q d σ) : Ev C A (eval (.Name x pos) env) σ Q :=
 ev_name (load_loc hE hk hs hm hQ) (hE.dbg hk)
theorem name_cell {c : Addr} (hE : EnvIs env L names cells) (hk : (x, .cell) ∈ names) (hc : (x, c) ∈ cells) (hs : (c, .cell (some d)) ∈ σ) (hQ : Q d σ) : Ev C A (eval (.Name x pos) env) σ Q :=
 ev_name (load_cell hE hk hc hs hQ) (hE.dbg hk)
theorem name_free {c : Addr} (hE : EnvIs env L names cells) (hk : (x, .free) ∈ names) (hc : (x, c) ∈ cells) (hs : (c, .cell (some d)) ∈ σ) (hQ : Q d σ) : Ev C A (eval (.Name x pos) env) σ Q :=
 ev_name (load_free hE hk hc hs hQ) (hE.dbg hk)
theorem name_glob {glob : List (Str × AV)} (G : Gl C glob) (hE : EnvIs env L names cells) (hk : (x, .globalImplicit) ∈ names) (hg : (x, d) ∈ glob) (hQ : Q d σ) : Ev C A (eval (.Name x pos) env) σ Q :=
 ev_name (load_glob G hE hk hg hQ) (hE.dbg hk)
theorem envIs_of {names : List (Str × NameKind)} (kind : env.scope.kind = .function) (nms : env.scope.names = names) (nd : (names.map (·.1)).Nodup) (nodbg : ("__debug__" : Str) ∉ names.map (·.1)) (nocls : ("__classdict__" : Str) ∉ names.map (·.1))
   (loc : env.locals = L) (glob : env.globals = mainGlobals) (blt : env.builtins = builtinsNs) (hc : ∀ x c, (x, c) ∈ cells -> env.cells.lookup x = some c) : EnvIs env L names cells :=
 have key : ∀ x k, (x, k) ∈ names -> env.kindOf x = some k := fun x k h => by unfold Env.kindOf; rw [nms]; exact lookup_of_mem nd h
 ⟨kind, fun x h => key x _ h, fun x h => key x _ h, fun x h => .inr (key x _ h), fun x h => key x _ h, nodbg, nocls, loc, glob, blt, hc⟩
theorem const_int {i : Int} {k} (hQ : Q (.int i) σ) : Ev C A (eval (.Constant (.int i) k pos) env) σ Q :=
 fun P s S => wpAny_Constant_int (Post.mk (S.toks _) (.int _ _) hQ)
theorem const_none {k} (hQ : Q .none σ) : Ev C A (eval (.Constant .none k pos) env) σ Q :=
 fun P s S => wpAny_pure (Post.mk S .none hQ)
theorem const_bool {b : Bool} {k} (hQ : Q (.bool b) σ) : Ev C A (eval (.Constant (.bool b) k pos) env) σ Q :=
 fun P s S => wpAny_pure (Post.mk S (.bool b) hQ)
theorem const_str {y : Str} {k} (hQ : Q (.str y) σ) : Ev C A (eval (.Constant (.str y) k pos) env) σ Q :=
 fun P s S => wpAny_mkText (Post.mk (S.toks _) (.str _ _) hQ)
theorem ev_bin {op : Operator} {l r : Expr} (h : Ev C A (eval l env) σ (thenE C A env r (op2K C A (binaryOp op) Q))) : Ev C A (eval (.BinOp l op r pos) env) σ Q := by
 intro P s S; exact wpAny_BinOp (h.run S fun P₁ v₁ a σ₁ s₁ l₁ S₁ r₁ q₁ => q₁.run S₁ fun P₂ v₂ b σ₂ s₂ l₂ S₂ r₂ q₂ => weakPost (l₁.trans l₂) (q₂ P₂ s₂ v₁ v₂ S₂ (r₁.mono l₂) r₂))
theorem bin_add {i j : Int} (hQ : Q (.int (i + j)) σ) : Op2 VR C A (binaryOp .Add) (.int i) (.int j) σ Q := by
 rintro P s v0 v1 S r0 r1; obtain ⟨t0, rfl⟩ := r0.int_inv; obtain ⟨t1, rfl⟩ := r1.int_inv; exact PyProof.Rows.add_int (Post.mk (S.toks _) (.int _ _) hQ)
theorem bin_sub {i j : Int} (hQ : Q (.int (i - j)) σ) : Op2 VR C A (binaryOp .Sub) (.int i) (.int j) σ Q := by
 rintro P s v0 v1 S r0 r1; obtain ⟨t0, rfl⟩ := r0.int_inv; obtain ⟨t1, rfl⟩ := r1.int_inv; exact PyProof.Rows.sub_int (Post.mk (S.toks _) (.int _ _) hQ)
end
end
section
inductive Upd : St -> Addr -> AEnt -> AEnt -> St -> Prop
 | here {a : Addr} {e e' : AEnt} {σ : St} : Upd ((a, e) :: σ) a e e' ((a, e') :: σ)
 | there {a : Addr} {e e' : AEnt} {p : Addr × AEnt} {σ σ' : St} : Upd σ a e e' σ' -> Upd (p :: σ) a e e' (p :: σ')
theorem Upd.split {σ σ' : St} {a : Addr} {e e' : AEnt} (h : Upd σ a e e' σ') : ∃ σ₁ σ₂, σ = σ₁ ++ (a, e) :: σ₂ /\ σ' = σ₁ ++ (a, e') :: σ₂ := by
 induction h with
 | here => exact ⟨[], _, rfl, rfl⟩
 | there _ ih => obtain ⟨σ₁, σ₂, rfl, rfl⟩ := ih; exact ⟨_ :: σ₁, σ₂, rfl, rfl⟩
theorem Upd.mem {σ σ' : St} {a : Addr} {e e' : AEnt} (h : Upd σ a e e' σ') : (a, e) ∈ σ := by
 obtain ⟨σ₁, σ₂, rfl, _⟩ := h.split; exact mem_append_right _ mem_cons_self
theorem Sat.upd {C : Cx} {P : Pool} {σ σ' : St} {a : Addr} {e e' : AEnt} {s : Shared} (S : Sat C P σ s) (u : Upd σ a e e' σ') {h' : Heap} (tk : Nat)
   (hk : ∀ b o, b ≠ a -> s.heap.get? b = some o -> h'.get? b = some o) (he : EntAt P h' a e') : Sat C P σ' { s with heap := h', toks := tk } := by
 obtain ⟨σ₁, σ₂, rfl, rfl⟩ := u.split; exact S.at tk hk he
inductive SetM : List (Str × Option AV) -> Str -> AV -> List (Str × Option AV) -> Prop
 | here {x : Str} {ov : Option AV} {d : AV} {m : List (Str × Option AV)} : SetM ((x, ov) :: m) x d ((x, some d) :: m)
 | there {x : Str} {d : AV} {p : Str × Option AV} {m m' : List (Str × Option AV)} : SetM m x d m' -> SetM (p :: m) x d (p :: m')
theorem SetM.keys {m m' : List (Str × Option AV)} {x : Str} {d : AV} (h : SetM m x d m') : m'.map (·.1) = m.map (·.1) /\ x ∈ m.map (·.1) := by
 induction h with
 | here => exact ⟨rfl, mem_cons_self⟩
 | there _ ih => exact ⟨by rw [map_cons, map_cons, ih.1], mem_cons_of_mem _ ih.2⟩
theorem SetM.get {m m' : List (Str × Option AV)} {x : Str} {d : AV} (h : SetM m x d m') (nd : (m.map (·.1)).Nodup) : ∀ y av, (y, some av) ∈ m' -> (y = x /\ av = d) \/ (y ≠ x /\ (y, some av) ∈ m) := by
 induction h with
 | here =>
   intro y av hm; rw [map_cons, nodup_cons] at nd; rcases List.mem_cons.mp hm with e | hm
   . cases e; exact .inl ⟨rfl, rfl⟩
   . exact .inr ⟨fun e => nd.1 (e ▸ mem_map_of_mem (f := (·.1)) hm), mem_cons_of_mem _ hm⟩
 | there h ih =>
   intro y av hm; rw [map_cons, nodup_cons] at nd; rcases List.mem_cons.mp hm with e | hm
   . exact .inr ⟨fun q => nd.1 (by rw [<- e]; show y ∈ _; rw [q]; exact h.keys.2), e ▸ mem_cons_self⟩
   . rcases ih nd.2 y av hm with q | q
     . exact .inl q
     . exact .inr ⟨q.1, mem_cons_of_mem _ q.2⟩
section
variable {C : Cx} {A : Around} {σ σ' σ'' : St} {env : Env} {L : Addr} {names : List (Str × NameKind)} {cells : List (Str × Addr)} {x : Str} {pos pos' : Pos} {d : AV}
noncomputable abbrev RU : Pool -> Unit -> Unit -> Prop := fun _ _ _ => True
noncomputable abbrev RB : Pool -> Bool -> Bool -> Prop := fun _ a b => a = b
theorem store_loc {m m' : List (Str × Option AV)} {Q : Unit -> St -> Prop} (hE : EnvIs env L names cells) (hk : (x, .local) ∈ names) (hm : SetM m x d m') (hu : Upd σ L (.ns m) (.ns m') σ') (hQ : Q () σ') : Op1 RU C A (storeName env x) d σ Q := by
 intro P s v S r; obtain ⟨nd, mm, h1, h2⟩ := S.ents _ hu.mem; refine wpAny_storeName_local (hE.isLoc _ hk) (hE.loc ▸ h1) (fun h' hn hs => ?_) (by rw [hE.kind]; rfl); rw [hE.loc] at hs hn; refine Post.mk (b := ()) (σ' := σ') (S.upd hu _ hs.extBut ⟨by rw [hm.keys.1]; exact nd, _, hn, fun y av hy => ?_⟩) trivial hQ; rcases hm.get nd y av hy with ⟨rfl, rfl⟩ | ⟨e, hy⟩
 . exact ⟨v, by simp, r⟩
 . obtain ⟨u, e1, e2⟩ := h2 y av hy; exact ⟨u, by simp [e, e1], e2⟩
theorem store_cell {c : Addr} {ov : Option AV} {Q : Unit -> St -> Prop} (hE : EnvIs env L names cells) (hk : (x, .cell) ∈ names) (hc : (x, c) ∈ cells) (hu : Upd σ c (.cell ov) (.cell (some d)) σ') (hQ : Q () σ') : Op1 RU C A (storeName env x) d σ Q := by
 intro P s v S r; obtain ⟨v', h1, h2⟩ := S.ents _ hu.mem; refine wpAny_storeName_cell hE.kind (hE.isCell _ hk) (hE.cells _ _ hc) h1 (fun h' hn hs => ?_); have S' := S.upd hu s.toks hs.extBut ⟨some v, hn, fun av e => ⟨v, rfl, by cases e; exact r⟩⟩; exact Post.mk (b := ()) S' trivial hQ
theorem as_name {Q : Unit -> St -> Prop} (h : Op1 RU C A (storeName env x) d σ Q) : Op1 RU C A (assign (.Name x pos) env) d σ Q :=
 fun P s v S r => wpAny_bind (wpAny_standAt (wpAny_bindName (h P s v S r)))
theorem stl_loc {m m' : List (Str × Option AV)} {Q : Unit -> St -> Prop} (hE : EnvIs env L names cells) (hk : (x, .local) ∈ names) (hu : Upd σ L (.ns m) (.ns m') σ') (hm : SetM m x d m') (hQ : Q () σ') : Op1 RU C A (storeName env x) d σ Q := store_loc hE hk hm hu hQ
theorem as_loc {m m' : List (Str × Option AV)} {Q : Unit -> St -> Prop} (hE : EnvIs env L names cells) (hk : (x, .local) ∈ names) (hu : Upd σ L (.ns m) (.ns m') σ') (hm : SetM m x d m') (hQ : Q () σ') : Op1 RU C A (assign (.Name x pos) env) d σ Q := as_name (store_loc hE hk hm hu hQ)
theorem as_cell {c : Addr} {ov : Option AV} {Q : Unit -> St -> Prop} (hE : EnvIs env L names cells) (hk : (x, .cell) ∈ names) (hc : (x, c) ∈ cells) (hu : Upd σ c (.cell ov) (.cell (some d)) σ') (hQ : Q () σ') : Op1 RU C A (assign (.Name x pos) env) d σ Q := as_name (store_cell hE hk hc hu hQ)
theorem ex_assign {t value : Expr} {Q : AFlow -> St -> Prop} (h : Ev C A (eval value env) σ (op1K RU C A (assign t env) (nextK Q)))
   (hs : swapsWithSole [t] value pos.line env = pure false) (hw : swappedStores [t] value env = pure none) (he : (assignEach [t] env).map (·.2) = [assign t env]) : Ef C A (exec (.Assign [t] value pos) env) σ Q := by
 intro P s S; refine wpAny_Assign_stores (h.run S fun P₁ v a σ₁ s₁ l₁ S₁ r₁ q₁ => ?_) hs hw; rw [he]; show wpAny _ _ (assign t env v) _ _ _
 exact wpAny_mono (q₁ P₁ s₁ v S₁ r₁) (fun _ s₂ hzz => by obtain ⟨P₂, _, σ₂, l₂, S₂, _, q₂⟩ := hzz; exact ⟨P₂, .next, σ₂, l₁.trans l₂, S₂, .next, q₂⟩) fun _ _ x => x
@[reducible] noncomputable def ifsK (C : Cx) (A : Around) (env : Env) (body orelse : List PySem.Stmt) (Q : AFlow -> St -> Prop) (b : Bool) (σ : St) : Prop := if b then Ef C A (execs body env) σ Q else Ef C A (execs orelse env) σ Q
@[reducible] noncomputable def retK (Q : AFlow -> St -> Prop) (a : AV) (σ : St) : Prop := Q (.ret a) σ
theorem ex_if {test : Expr} {body orelse : List PySem.Stmt} {Q : AFlow -> St -> Prop} (h : Eb C A (isTrue test env (eval test env)) σ (ifsK C A env body orelse Q)) :
   Ef C A (exec (.If test body orelse pos) env) σ Q := by
 intro P s S; refine wpAny_If (h.run S fun P₁ v b σ₁ s₁ l₁ S₁ r₁ q₁ => ?_); cases r₁
 cases v with
 | true => exact Wp.postLe (R := FR) (show Ef C A (execs body env) σ₁ Q from q₁) l₁ S₁
 | false => exact Wp.postLe (R := FR) (show Ef C A (execs orelse env) σ₁ Q from q₁) l₁ S₁
theorem ex_return {e : Expr} {Q : AFlow -> St -> Prop} (h : Ev C A (eval e env) σ (retK Q)) : Ef C A (exec (.Return (some e) pos) env) σ Q :=
 fun P s S => wpAny_Return_some (h.run S fun P₁ v a σ₁ s₁ l₁ S₁ r₁ q₁ => ⟨P₁, .ret a, σ₁, l₁, S₁, .ret r₁, q₁⟩)
theorem ex_break {Q : AFlow -> St -> Prop} (h : Q .brk σ) : Ef C A (exec (.Break pos) env) σ Q :=
 fun P s S => wpAny_bind (wpAny_standAt (wpAny_pure (Post.mk (b := AFlow.brk) S .brk h)))
theorem exs_nil {Q : AFlow -> St -> Prop} (h : Q .next σ) : Ef C A (execs [] env) σ Q := fun P s S => wpAny_execs_nil (Post.mk (b := AFlow.next) S .next h)
@[reducible] noncomputable def thenK (C : Cx) (A : Around) (rest : List PySem.Stmt) (env : Env) (Q : AFlow -> St -> Prop) (f : AFlow) (σ : St) : Prop := match f with
 | .next => Ef C A (execs rest env) σ Q
 | f => Q f σ
theorem exs_cons {st : PySem.Stmt} {rest : List PySem.Stmt} {Q : AFlow -> St -> Prop} (h : Ef C A (exec st env) σ (thenK C A rest env Q)) : Ef C A (execs (st :: rest) env) σ Q := by
 intro P s S; refine wpAny_execs_cons (h.run S fun P₁ v f σ₁ s₁ l₁ S₁ r₁ q₁ => ?_)
 cases r₁ with
 | next => exact Wp.postLe q₁ l₁ S₁
 | brk => exact ⟨P₁, .brk, σ₁, l₁, S₁, .brk, q₁⟩
 | cont => exact ⟨P₁, .cont, σ₁, l₁, S₁, .cont, q₁⟩
 | ret r => exact ⟨P₁, .ret _, σ₁, l₁, S₁, .ret r, q₁⟩
theorem exs_assign {t value : Expr} {rest : List PySem.Stmt} {Q : AFlow -> St -> Prop} (h : Ev C A (eval value env) σ (op1K RU C A (assign t env) (nextK (thenK C A rest env Q))))
   (hs : swapsWithSole [t] value pos.line env = pure false) (hw : swappedStores [t] value env = pure none) (he : (assignEach [t] env).map (·.2) = [assign t env]) : Ef C A (execs (.Assign [t] value pos :: rest) env) σ Q := exs_cons (ex_assign h hs hw he)
theorem ex_aug_name {op : Operator} {value : Expr} {Q : AFlow -> St -> Prop} (h : Ev C A (loadName env x) σ fun a σ₁ => Ev C A (eval value env) σ₁ fun b σ₂ => Op2 VR C A (inplaceOp op) a b σ₂ fun c σ₃ => Op1 RU C A (storeName env x) c σ₃ fun _ σ₄ => Q .next σ₄) :
   Ef C A (exec (.AugAssign (.Name x pos') op value pos) env) σ Q := by
 intro P s S; refine wpAny_AugAssign_Name (h.run S fun P₁ v₁ a σ₁ s₁ l₁ S₁ r₁ q₁ => q₁.run S₁ fun P₂ v₂ b σ₂ s₂ l₂ S₂ r₂ q₂ => ?_); refine wpAny_mono (q₂ P₂ s₂ v₁ v₂ S₂ (r₁.mono l₂) r₂) (fun v₃ s₃ hzz => ?_) fun _ _ x => x; obtain ⟨P₃, c, σ₃, l₃, S₃, r₃, q₃⟩ := hzz
 exact wpAny_mono (q₃ P₃ s₃ v₃ S₃ r₃) (fun _ s₄ hzz => by obtain ⟨P₄, _, σ₄, l₄, S₄, _, q₄⟩ := hzz; exact ⟨P₄, .next, σ₄, ((l₁.trans l₂).trans l₃).trans l₄, S₄, .next, q₄⟩) fun _ _ x => x
theorem ex_aug_sub {op : Operator} {o i value : Expr} {tpos : Pos} {Q : AFlow -> St -> Prop}
   (h : Ev C A (eval o env) σ fun a σ₁ => Ev C A (eval i env) σ₁ fun b σ₂ => Op2 VR C A getItem a b σ₂ fun c σ₃ => Ev C A (eval value env) σ₃ fun d σ₄ => Op2 VR C A (inplaceOp op) c d σ₄ fun e σ₅ => Op3 RU C A setItem a b e σ₅ fun _ σ₆ => Q .next σ₆)
   (hi : ∀ ov iv new, augStore i ov iv new = (do holding [new, ov, iv] (setItem ov iv new); release [new, ov, iv] []; pure .next)) :
   Ef C A (exec (.AugAssign (.Subscript o i tpos) op value pos) env) σ Q := by
 intro P s S; refine wpAny_AugAssign_SubscriptAny (h.run S fun P₁ v₁ a σ₁ s₁ l₁ S₁ r₁ q₁ => q₁.run S₁ fun P₂ v₂ b σ₂ s₂ l₂ S₂ r₂ q₂ => ?_) hi; refine wpAny_mono (q₂ P₂ s₂ v₁ v₂ S₂ (r₁.mono l₂) r₂) (fun v₃ s₃ hzz => ?_) fun _ _ x => x; obtain ⟨P₃, c, σ₃, l₃, S₃, r₃, q₃⟩ := hzz; refine q₃.run S₃ fun P₄ v₄ d σ₄ s₄ l₄ S₄ r₄ q₄ => ?_; refine wpAny_mono (q₄ P₄ s₄ v₃ v₄ S₄ (r₃.mono l₄) r₄) (fun v₅ s₅ hzz => ?_) fun _ _ x => x; obtain ⟨P₅, e, σ₅, l₅, S₅, r₅, q₅⟩ := hzz; have l35 := (l₃.trans l₄).trans l₅
 exact wpAny_mono (q₅ P₅ s₅ v₁ v₂ v₅ S₅ (r₁.mono (l₂.trans l35)) (r₂.mono l35) r₅) (fun _ s₆ hzz => by obtain ⟨P₆, _, σ₆, l₆, S₆, _, q₆⟩ := hzz; exact ⟨P₆, .next, σ₆, ((l₁.trans l₂).trans l35).trans l₆, S₆, .next, q₆⟩) fun _ _ x => x
theorem as_sub {o i : Expr} {Q : Unit -> St -> Prop}
   (h : Ev C A (eval o env) σ fun a σ₁ => Ev C A (eval i env) σ₁ fun b σ₂ => Op3 RU C A setItem a b d σ₂ Q) : Op1 RU C A (assign (.Subscript o i pos) env) d σ Q := by
 intro P s v S r; rw [PySem.arm_assign_Subscript]; refine wpAny_bind (wpAny_holding (h.run S fun P₁ v₁ a σ₁ s₁ l₁ S₁ r₁ q₁ => wpAny_bind (wpAny_holding (q₁.run S₁ fun P₂ v₂ b σ₂ s₂ l₂ S₂ r₂ q₂ => ?_)))); refine wpAny_bind (wpAny_standAt (wpAny_bind (wpAny_holding ?_))); refine wpAny_mono (q₂ P₂ s₂ v₁ v₂ v S₂ (r₁.mono l₂) r₂ (r.mono (l₁.trans l₂))) (fun _ s₃ q₃ => ?_) fun _ _ x => x; exact wpAny_release' (Post.le (l₁.trans l₂) q₃)
noncomputable def AsAll (C : Cx) (A : Around) (env : Env) : List Expr -> List AV -> St -> (Unit -> St -> Prop) -> Prop
 | [], [], σ, Q => Q () σ
 | t :: ts, d :: ds, σ, Q => Op1 RU C A (assign t env) d σ fun _ σ₁ => AsAll C A env ts ds σ₁ Q
 | _, _, _, _ => False
theorem asAll_run {ts : List Expr} {ds : List AV} {vs : List Value} {σ : St} {Q : Unit -> St -> Prop} {P : Pool} {s : Shared} (h : AsAll C A env ts ds σ Q) (S : Sat C P σ s) (rs : VRs P vs ds) :
   wpAny (model C.prog C.w) A (assignInOrder (ts.map fun t => assign t env) vs) (Post RU C P Q) No s := by
 induction ts generalizing ds vs σ P s with
 | nil =>
   cases ds with
   | nil => obtain rfl := rs.nil_inv; exact wpAny_pure (Post.mk (b := ()) S trivial h)
   | cons d ds => exact h.elim
 | cons t ts ih =>
   cases ds with
   | nil => exact h.elim
   | cons d ds =>
     obtain ⟨v, ws, rfl, r, rs'⟩ := rs.cons_inv
     show wpAny _ _ (do holding ws (assign t env v); assignInOrder (ts.map fun t => assign t env) ws) _ _ _
     refine wpAny_bind (wpAny_holding (wpAny_mono (h P s v S r) (fun _ s₁ h => ?_) fun _ _ x => x)); obtain ⟨P₁, _, σ₁, l₁, S₁, _, q₁⟩ := h; exact weakPost l₁ (ih q₁ S₁ (rs'.mono l₁))
theorem VRs.length {P : Pool} {vs : List Value} {ds : List AV} (h : VRs P vs ds) : vs.length = ds.length := by
 induction h using VRs.ind with
 | nil => rfl
 | cons _ _ ih => exact congrArg Nat.succ ih
theorem as_tuple {ts : List Expr} {k : Nat} {ds : List AV} {Q : Unit -> St -> Prop} (hh : A.handled = none) (hl : ts.length = ds.length) (he : assignEach ts env = ts.map fun t => (false, assign t env))
   (h : AsAll C A env ts ds σ Q) : Op1 RU C A (assign (.Tuple ts k pos) env) (.tuple ds) σ Q := by
 intro P s v S r; obtain ⟨a, o, vs, n, rfl, ho, hc, hd, rs⟩ := r.tuple_inv; refine assign_Tuple_tuple hh ⟨o, S.pool _ _ ho, hc, n, hd⟩ (by rw [he]; simp [hl, rs.length]) (by rw [he]; clear hl he h; induction ts with | nil => rfl | cons _ _ ih => simp [List.findIdx?_cons, ih]) fun h' hx => ?_; have S' := S.heap s.toks (h' := h') fun b o e => hx b o (ne_of_lt (Heap.lt_size e)) e; rw [he, map_map]; exact asAll_run (ts := ts) h S' (by simpa using rs)
end
end
section
inductive RdL (σ : St) : AV -> List AV -> Prop
 | frozen {ds : List AV} : RdL σ (.list ds) ds
 | frozenW {ds : List AV} : RdL σ (.wlist ds) ds
 | ledW {a : Addr} {ds : List AV} : (a, .wlist ds) ∈ σ -> RdL σ (.val (.ref a)) ds
 | led {a : Addr} {ds : List AV} : (a, .list ds) ∈ σ -> RdL σ (.val (.ref a)) ds
inductive RdD (σ : St) : AV -> List (Int × AV) -> Prop
 | frozen {ds : List (Int × AV)} : RdD σ (.dict ds) ds
 | led {a : Addr} {ds : List (Int × AV)} : (a, .dict ds) ∈ σ -> RdD σ (.val (.ref a)) ds
noncomputable def zipKV : List (Int × AV) -> List DictEntry -> List (Int × Value)
 | (k, _) :: ds, e :: es => (k, e.val) :: zipKV ds es
 | _, _ => []
theorem VRd.keysOf {P : Pool} {prog : Program} {w : World} {es : List DictEntry} {ds : List (Int × AV)} (h : VRd P es ds) : ∀ e ∈ es, ∃ k, (intKind prog w).is k e.key = true /\ e.hash = (intKind prog w).hash k := by
 induction h using VRd.ind with
 | nil => exact fun e h => nomatch h
 | cons hk hh _ _ ih =>
   intro e h; rcases List.mem_cons.mp h with e1 | h
   . rw [e1]; exact ⟨_, by rw [hk]; show (_ == _) = true; simp, hh⟩
   . exact ih e h
theorem VRd.pairs {P : Pool} {prog : Program} {w : World} {es : List DictEntry} {ds : List (Int × AV)} (h : VRd P es ds) : Pairs (intKind prog w) es (zipKV ds es) := by
 induction h using VRd.ind with
 | nil => exact .nil
 | cons hk _ _ _ ih => exact .cons (by rw [hk]; show (_ == _) = true; simp) rfl ih
theorem VRd.keys {P : Pool} {es : List DictEntry} {ds : List (Int × AV)} (h : VRd P es ds) : (zipKV ds es).map (·.1) = ds.map (·.1) := by
 induction h using VRd.ind with
 | nil => rfl
 | cons _ _ _ _ ih => exact congrArg _ ih
theorem VRd.length {P : Pool} {es : List DictEntry} {ds : List (Int × AV)} (h : VRd P es ds) : es.length = ds.length := by
 induction h using VRd.ind with
 | nil => rfl
 | cons _ _ _ _ ih => exact congrArg Nat.succ ih
inductive VRkv (P : Pool) : List (Int × Value) -> List (Int × AV) -> Prop
 | nil : VRkv P [] []
 | cons {k : Int} {v : Value} {d : AV} {kvs : List (Int × Value)} {ds : List (Int × AV)} : VR P v d -> VRkv P kvs ds -> VRkv P ((k, v) :: kvs) ((k, d) :: ds)
theorem VRd.kv {P : Pool} {es : List DictEntry} {ds : List (Int × AV)} (h : VRd P es ds) : VRkv P (zipKV ds es) ds := by
 induction h using VRd.ind with
 | nil => exact .nil
 | cons _ _ h _ ih => exact .cons h ih
theorem VRkv.mono {P P' : Pool} (hp : PLe P P') {kvs : List (Int × Value)} {ds : List (Int × AV)} (h : VRkv P kvs ds) : VRkv P' kvs ds := by
 induction h with
 | nil => exact .nil
 | cons h _ ih => exact .cons (h.mono hp) ih
theorem VRkv.length {P : Pool} {kvs : List (Int × Value)} {ds : List (Int × AV)} (h : VRkv P kvs ds) : kvs.length = ds.length := by
 induction h with
 | nil => rfl
 | cons _ _ ih => exact congrArg Nat.succ ih
theorem VRkv.keys {P : Pool} {kvs : List (Int × Value)} {ds : List (Int × AV)} (h : VRkv P kvs ds) : kvs.map (·.1) = ds.map (·.1) := by
 induction h with
 | nil => rfl
 | cons _ _ ih => exact congrArg _ ih
section
variable {β : Type}
noncomputable def gGet : List (Int × β) -> Int -> Option β
 | [], _ => none
 | (k, v) :: l, i => if k = i then some v else gGet l i
noncomputable def gPut : List (Int × β) -> Int -> β -> List (Int × β)
 | [], i, v => [(i, v)]
 | (k, u) :: l, i, v => if k = i then (k, v) :: l else (k, u) :: gPut l i v
theorem gGet_c (p : Int × β) (l : List (Int × β)) (i : Int) : gGet (p :: l) i = if p.1 = i then some p.2 else gGet l i := rfl
theorem gPut_c (p : Int × β) (l : List (Int × β)) (i : Int) (v : β) : gPut (p :: l) i v = if p.1 = i then (p.1, v) :: l else p :: gPut l i v := rfl
theorem gGet_none {l : List (Int × β)} {k : Int} : gGet l k = none ↔ k ∉ l.map (·.1) := by
 induction l with
 | nil => exact iff_of_true rfl not_mem_nil
 | cons p l ih =>
   rw [gGet_c, map_cons, mem_cons, not_or]; by_cases hj : p.1 = k
   . rw [if_pos hj]; exact iff_of_false (fun h => nomatch h) fun h => h.1 hj.symm
   . rw [if_neg hj, ih]; exact ⟨fun h => ⟨fun e => hj e.symm, h⟩, fun h => h.2⟩
theorem gPut_of_not {l : List (Int × β)} {k : Int} {d : β} (h : k ∉ l.map (·.1)) : gPut l k d = l ++ [(k, d)] := by
 induction l with
 | nil => rfl
 | cons p l ih =>
   rw [map_cons, mem_cons, not_or] at h; rw [gPut_c, if_neg fun q => h.1 q.symm, ih h.2]; rfl
theorem gPut_keys {l : List (Int × β)} {k : Int} {d : β} : (gPut l k d).map (·.1) = if k ∈ l.map (·.1) then l.map (·.1) else l.map (·.1) ++ [k] := by
 induction l with
 | nil => rfl
 | cons p l ih =>
   rw [gPut_c]; by_cases hj : p.1 = k
   . rw [if_pos hj, map_cons, map_cons, if_pos (hj ▸ mem_cons_self)]
   . rw [if_neg hj, map_cons, ih, map_cons]; by_cases hk : k ∈ l.map (·.1)
     . rw [if_pos hk, if_pos (mem_cons_of_mem _ hk)]
     . rw [if_neg hk, if_neg fun q => (List.mem_cons.mp q).elim (fun e => hj e.symm) hk]; rfl
theorem gPut_nd {l : List (Int × β)} {k : Int} {d : β} (h : (l.map (·.1)).Nodup) : ((gPut l k d).map (·.1)).Nodup := by
 rw [gPut_keys]; split
 . exact h
 . next hk => exact List.nodup_append.mpr ⟨h, by simp, fun a ha b hb e => hk (List.mem_singleton.mp hb ▸ e ▸ ha)⟩
theorem gPut_len {l : List (Int × β)} {k : Int} {d : β} : (gPut l k d).length <= l.length + 1 := by
 have := congrArg List.length (gPut_keys (l := l) (k := k) (d := d)); rw [length_map] at this; rw [this]; split
 . rw [length_map]; exact le_succ _
 . rw [length_append, length_map]; exact le_refl _
theorem gGet_put (l : List (Int × β)) (i j : Int) (v : β) : gGet (gPut l i v) j = if i = j then some v else gGet l j := by
 induction l with
 | nil => rfl
 | cons p l ih =>
   rw [gPut_c]; by_cases h : p.1 = i
   . rw [if_pos h, gGet_c, gGet_c, h]; by_cases hj : i = j
     . rw [if_pos hj, if_pos hj]
     . rw [if_neg hj, if_neg hj, if_neg hj]
   . rw [if_neg h, gGet_c, gGet_c, ih]; by_cases hj : p.1 = j
     . rw [if_pos hj, if_pos hj, if_neg fun e => h (hj.trans e.symm)]
     . rw [if_neg hj, if_neg hj]
theorem gGet_map {γ : Type} (f : β -> γ) (l : List (Int × β)) (i : Int) : gGet (l.map fun p => (p.1, f p.2)) i = (gGet l i).map f := by
 induction l with
 | nil => rfl
 | cons p l ih =>
   rw [map_cons, gGet_c, gGet_c, ih]; split <;> rfl
theorem gPut_map {γ : Type} (f : β -> γ) (l : List (Int × β)) (i : Int) (v : β) : gPut (l.map fun p => (p.1, f p.2)) i (f v) = (gPut l i v).map fun p => (p.1, f p.2) := by
 induction l with
 | nil => rfl
 | cons p l ih =>
   rw [map_cons, gPut_c, gPut_c, ih]; split <;> rfl
theorem gGet_mem {l : List (Int × β)} {k : Int} {v : β} (nd : (l.map (·.1)).Nodup) (h : (k, v) ∈ l) : gGet l k = some v := by
 induction l with
 | nil => cases h
 | cons p l ih =>
   rw [map_cons, nodup_cons] at nd; rw [gGet_c]; rcases List.mem_cons.mp h with e | h
   . rw [<- e, if_pos rfl]
   . rw [if_neg fun e : p.1 = k => nd.1 (e ▸ mem_map_of_mem (f := (·.1)) h), ih nd.2 h]
theorem gGet_some {l : List (Int × β)} {k : Int} : (gGet l k).isSome = true ↔ k ∈ l.map (·.1) := by
 have := gGet_none (l := l) (k := k)
 cases h : gGet l k with
 | none => exact iff_of_false (fun h => nomatch h) (this.mp h)
 | some v => exact iff_of_true rfl (Decidable.not_not.mp fun q => by rw [this.mpr q] at h; cases h)
end
theorem VRkv.find {P : Pool} {k : Int} {kvs : List (Int × Value)} {ds : List (Int × AV)} (h : VRkv P kvs ds) : (∀ d, gGet ds k = some d -> ∃ v, valueAt kvs k = some v /\ VR P v d) /\ (gGet ds k = none -> valueAt kvs k = none) := by
 induction h with
 | nil => exact ⟨fun _ h => (nomatch h), fun _ => rfl⟩
 | @cons j v d kvs ds h r ih =>
   have e : valueAt ((j, v) :: kvs) k = if j = k then some v else valueAt kvs k := by
     unfold valueAt; by_cases hj : j = k <;> simp [hj]
   rw [e]; rw [gGet_c]; by_cases hj : j = k
   . rw [if_pos hj, if_pos hj]; exact ⟨fun d hd => ⟨v, rfl, by cases hd; exact h⟩, fun hd => (nomatch hd)⟩
   . rw [if_neg hj, if_neg hj]; exact ih
set_option tactic.hygienic true in
theorem VRkv.stored {P : Pool} {k : Int} {v : Value} {d : AV} (hv : VR P v d) {kvs : List (Int × Value)} {ds : List (Int × AV)} (nd : (ds.map (·.1)).Nodup) (hr : VRkv P kvs ds) : VRkv P (PySem.stored kvs k v) (gPut ds k d) := by
 induction hr with
 | nil => exact .cons hv .nil
 | @cons j u e kvs ds h r ih =>
   rw [map_cons, nodup_cons] at nd; have ih := ih nd.2; have hkeys := r.keys; unfold PySem.stored at ih ⊢; rw [gPut_c]; by_cases hj : j = k
   . subst hj; simp only [List.any_cons, decide_true, Bool.true_or, if_true, map_cons]; refine .cons hv ?_
     have hno : ∀ kv ∈ kvs, kv.1 ≠ j := fun kv hm e => nd.1 (hkeys ▸ e ▸ mem_map_of_mem (f := (·.1)) hm)
     have : kvs.map (fun kv => if kv.1 = j then (kv.1, v) else kv) = kvs := by
       conv => rhs; rw [<- List.map_id kvs]
       exact map_congr_left fun kv hm => by simp [hno kv hm]
     rw [this]; exact r
   . simp only [List.any_cons, hj, decide_false, Bool.false_or, if_false, map_cons]; split
     . rename_i ha; rw [if_pos ha] at ih; exact .cons h ih
     . rename_i ha; rw [if_neg ha] at ih; exact .cons h ih
theorem VRd.of_pairs {P : Pool} {prog : Program} {w : World} {es : List DictEntry} {kvs : List (Int × Value)} {ds : List (Int × AV)} (hk : ∀ e ∈ es, ∃ k, (intKind prog w).is k e.key = true /\ e.hash = (intKind prog w).hash k)
   (hp : Pairs (intKind prog w) es kvs) (hv : VRkv P kvs ds) : VRd P es ds := by
 induction hp generalizing ds with
 | nil => cases hv; exact .nil
 | @cons e kv es kvs he hev r ih =>
   obtain ⟨k, v⟩ := kv
   cases hv with
   | cons h r' =>
     obtain ⟨k', h1, h2⟩ := hk e mem_cons_self; have e1 := Value.isInt_inj _ _ _ h1 he; obtain ⟨t, ht⟩ := Value.isInt_shape he; exact .cons (t := t) ht (by rw [h2, e1]; rfl) (by have hv' : e.val = v := hev; rw [hv']; exact h) (ih (fun e' hm => hk e' (mem_cons_of_mem _ hm)) r')
section
variable {C : Cx} {A : Around} {σ σ' σ'' : St} {env : Env} {L : Addr} {names : List (Str × NameKind)} {cells : List (Str × Addr)} {x : Str} {pos pos' : Pos} {d : AV} {P : Pool} {s : Shared} {v : Value}
inductive RdLO (s : Shared) (P : Pool) (v : Value) (ds : List AV) : Prop
 | intro (a : Addr) (o : Obj) (vs : List Value) (n : Nat) (e : v = .ref a) (h : s.heap.get? a = some o) (hc : o.cls = .type "list") (hd : o.data = .seq (List.toArray vs) n) (r : VRs P vs ds)
inductive AtO (R : Addr -> Array Value -> Prop) (P : Pool) (v : Value) (ds : List AV) : Prop
 | intro (a : Addr) (vs : List Value) (e : v = .ref a) (h : R a (List.toArray vs)) (r : VRs P vs ds)
inductive RdDO (C : Cx) (s : Shared) (P : Pool) (v : Value) (ds : List (Int × AV)) : Prop
 | intro (a : Addr) (kvs : List (Int × Value)) (e : v = .ref a) (q : (a == sysModules) = false) (h : s.heap.DictOf (intKind C.prog C.w) a kvs) (r : VRkv P kvs ds) (nd : (ds.map (·.1)).Nodup)
inductive RdDE (s : Shared) (P : Pool) (v : Value) (ds : List (Int × AV)) : Prop
 | intro (a : Addr) (o : Obj) (es : List DictEntry) (n : Nat) (e : v = .ref a) (q : (a == sysModules) = false) (h : s.heap.get? a = some o) (hx : o.ExactDict) (hd : o.data = .dict (List.toArray es) n) (r : VRd P es ds) (nd : (ds.map (·.1)).Nodup)
theorem RdL.get {ds : List AV} (h : RdL σ d ds) (S : Sat C P σ s) (r : VR P v d) : RdLO s P v ds := by
 cases h with
 | frozen => obtain ⟨a, vs, n, e, h1, h4⟩ := r.list_inv; exact ⟨a, _, vs, n, e, S.pool _ _ h1, rfl, rfl, h4⟩
 | frozenW => obtain ⟨a, o, vs, n, e, h1, h2, h3, h4⟩ := r.wlist_inv; exact ⟨a, o, vs, n, e, S.pool _ _ h1, h2, h3, h4⟩
 | led hm => obtain ⟨vs, n, h1, h4⟩ := S.ents _ hm; exact ⟨_, _, vs, n, r.val_inv, h1, rfl, rfl, h4⟩
 | ledW hm => obtain ⟨o, vs, n, h1, h2, h3, h4⟩ := S.ents _ hm; exact ⟨_, o, vs, n, r.val_inv, h1, h2, h3, h4⟩
theorem RdL.isList {ds : List AV} (h : RdL σ d ds) (S : Sat C P σ s) (r : VR P v d) : AtO s.heap.IsList P v ds := by
 obtain ⟨a, o, vs, n, e, h1, h2, h3, h4⟩ := h.get S r; exact ⟨a, vs, e, ⟨o, h1, h2, n, h3⟩, h4⟩
theorem tup_get {ds : List AV} (S : Sat C P σ s) (r : VR P v (.tuple ds)) : AtO (IsTup s.heap) P v ds := by
 obtain ⟨a, o, vs, n, e, h1, h2, h3, h4⟩ := r.tuple_inv; exact ⟨a, vs, e, ⟨_, S.pool _ _ h1, h2, _, h3⟩, h4⟩
theorem RdD.get {ds : List (Int × AV)} (h : RdD σ d ds) (S : Sat C P σ s) (r : VR P v d) : RdDO C s P v ds := by
 have key : RdDE s P v ds := by
   cases h with
   | frozen => obtain ⟨a, o, es, n, e, h1, q, h2, h3, h4, h5⟩ := r.dict_inv; exact ⟨a, o, es, n, e, q, S.pool _ _ h1, h2, h3, h4, h5⟩
   | led hm => obtain ⟨q, o, es, n, h1, h2, h3, h4, h5⟩ := S.ents _ hm; exact ⟨_, o, es, n, r.val_inv, q, h1, h2, h3, h4, h5⟩
 obtain ⟨a, o, es, n, e, q, h1, h2, h3, h4, h5⟩ := key; exact ⟨a, _, e, q, ⟨_, _, _, h1, h2, h3, fun e he => h4.keysOf e (by simpa using he), by simpa using h4.pairs, by rw [h4.keys]; exact h5⟩, h4.kv, h5⟩
theorem VRs.get {vs : List Value} {ds : List AV} (h : VRs P vs ds) {k : Nat} {d : AV} (e : ds[k]? = some d) : ∃ v, vs[k]? = some v /\ VR P v d := by
 induction h using VRs.ind generalizing k with
 | nil => cases e
 | cons h _ ih =>
   cases k with
   | zero => injection e with e; exact ⟨_, rfl, e ▸ h⟩
   | succ k => exact ih e
theorem VRs.drop {vs : List Value} {ds : List AV} (h : VRs P vs ds) (k : Nat) : VRs P (vs.drop k) (ds.drop k) := by
 induction h using VRs.ind generalizing k with
 | nil => cases k <;> exact .nil
 | cons h r ih =>
   cases k with
   | zero => exact .cons h r
   | succ k => exact ih k
theorem VRs.take {vs : List Value} {ds : List AV} (h : VRs P vs ds) (k : Nat) : VRs P (vs.take k) (ds.take k) := by
 induction h using VRs.ind generalizing k with
 | nil => cases k <;> exact .nil
 | cons h r ih =>
   cases k with
   | zero => exact .nil
   | succ k => exact .cons h (ih k)
theorem VRs.append {vs ws : List Value} {ds es : List AV} (h : VRs P vs ds) (h' : VRs P ws es) : VRs P (vs ++ ws) (ds ++ es) := by
 induction h using VRs.ind with
 | nil => exact h'
 | cons h _ ih => exact .cons h ih
theorem VRs.set {vs : List Value} {ds : List AV} (h : VRs P vs ds) (k : Nat) {v : Value} {d : AV} (h' : VR P v d) : VRs P (vs.set k v) (ds.set k d) := by
 induction h using VRs.ind generalizing k with
 | nil => exact .nil
 | cons h r ih =>
   cases k with
   | zero => exact .cons h' r
   | succ k => exact .cons h (ih k)
@[reducible] noncomputable def consK (Q : List AV -> St -> Prop) (a : AV) (as : List AV) (σ : St) : Prop := Q (a :: as) σ
@[reducible] noncomputable def argsK (C : Cx) (A : Around) (env : Env) (pos : Pos) (rest : List Expr) (Q : List AV -> St -> Prop) (a : AV) (σ : St) : Prop := Evs C A (spliced (backTo pos (starEach rest env))) σ (consK Q a)
inductive SzK (f : List AV -> AV) (Q : AV -> St -> Prop) (ds : List AV) (σ : St) : Prop
 | mk (h : ds.length <= sizeLine) (q : Q (f ds) σ)
inductive SzNewK (Q : AV -> St -> Prop) (ds : List AV) (σ : St) : Prop
 | mk (h : ds.length <= sizeLine) (q : ∀ a, Q (.val (.ref a)) ((a, .list ds) :: σ))
inductive BoolK (Q : Bool -> St -> Prop) (c : AV) (σ : St) : Prop
 | mk (t : Bool) (e : c = .bool t) (q : Q t σ)
theorem SzK.h {f : List AV -> AV} {ds : List AV} {σ : St} (x : SzK f Q ds σ) : ds.length <= sizeLine := by cases x; assumption
theorem SzK.q {f : List AV -> AV} {ds : List AV} {σ : St} (x : SzK f Q ds σ) : Q (f ds) σ := by cases x; assumption
theorem SzNewK.h {ds : List AV} {σ : St} (x : SzNewK Q ds σ) : ds.length <= sizeLine := by cases x; assumption
theorem SzNewK.q {ds : List AV} {σ : St} (x : SzNewK Q ds σ) (a : Addr) : Q (.val (.ref a)) ((a, .list ds) :: σ) := by cases x; apply_assumption
theorem args_nil {Q : List AV -> St -> Prop} (h : Q [] σ) : Evs C A (spliced (backTo pos (starEach [] env))) σ Q := fun P s S => PyProof.Rows.args_nil (Post.mk S VRs.nil h)
theorem args_cons {e : Expr} {rest : List Expr} {Q : List AV -> St -> Prop} (h : Ev C A (eval e env) σ (argsK C A env pos rest Q))
   (he : starEach (e :: rest) env = (false, eval e env) :: starEach rest env) : Evs C A (spliced (backTo pos (starEach (e :: rest) env))) σ Q := by
 intro P s S; exact PyProof.Rows.args_cons (h.run S fun P₁ v a σ₁ s₁ l₁ S₁ r₁ q₁ => q₁.run S₁ fun P₂ vs as σ₂ s₂ l₂ S₂ r₂ q₂ => ⟨P₂, a :: as, σ₂, l₁.trans l₂, S₂, .cons (r₁.mono l₂) r₂, q₂⟩) he
theorem frozen_new {h : Heap} {σ : St} {s : Shared} (S : Sat C P σ s) {o : Obj} (hf : o.isFreed = false) (tk : Nat) : PLe P (addP P s.heap.objs.size o) /\ Sat C (addP P s.heap.objs.size o) σ { s with heap := s.heap.push o, toks := tk } := by
 have hn : s.heap.get? s.heap.objs.size = none := Heap.get?_none_of_le (le_refl _); obtain ⟨h1, h2⟩ := S.none_of_fresh hn; have S' := S.heap (h' := s.heap.push o) tk fun b o' e => Heap.get?_push_of_some _ e; exact ⟨addP_le o h1, S'.frozen h1 h2 (Heap.get?_push_size _ hf)⟩
theorem ev_tuple {elts : List Expr} {k : Nat} (h : Evs C A (spliced (backTo pos (starEach elts env))) σ (SzK .tuple Q)) : Ev C A (eval (.Tuple elts k pos) env) σ Q := by
 intro P s S; refine wpAny_Tuple (h.run S fun P₁ vs ds σ₁ s₁ l₁ S₁ r₁ q₁ => ⟨by rw [r₁.length]; exact q₁.h, ?_⟩); obtain ⟨l, S'⟩ := frozen_new (h := s₁.heap) S₁ (o := { cls := .type "tuple", data := .seq vs.toArray }) rfl s₁.toks; exact ⟨_, _, σ₁, l₁.trans l, S', .tuple (addP_self _ _ _) rfl rfl (r₁.mono l), q₁.q⟩
theorem ev_list {elts : List Expr} (h : Evs C A (spliced (backTo pos (starEach elts env))) σ (SzK .list Q)) : Ev C A (eval (.List elts pos) env) σ Q := by
 intro P s S; refine wpAny_List (h.run S fun P₁ vs ds σ₁ s₁ l₁ S₁ r₁ q₁ => ⟨by rw [r₁.length]; exact q₁.h, ?_⟩); obtain ⟨l, S'⟩ := frozen_new (h := s₁.heap) S₁ (o := { cls := .type "list", data := .seq vs.toArray }) rfl s₁.toks; exact ⟨_, _, σ₁, l₁.trans l, S', .list (addP_self _ _ _) (r₁.mono l), q₁.q⟩
theorem ev_list_new {elts : List Expr} (h : Evs C A (spliced (backTo pos (starEach elts env))) σ (SzNewK Q)) : Ev C A (eval (.List elts pos) env) σ Q := by
 intro P s S; refine wpAny_List (h.run S fun P₁ vs ds σ₁ s₁ l₁ S₁ r₁ q₁ => ⟨by rw [r₁.length]; exact q₁.h, ?_⟩); have hn : s₁.heap.get? s₁.heap.objs.size = none := Heap.get?_none_of_le (le_refl _); have S' := S₁.new (e := .list ds) hn (h' := s₁.heap.push { cls := .type "list", data := .seq vs.toArray }) s₁.toks (fun b o e => Heap.get?_push_of_some _ e) ⟨vs, _, Heap.get?_push_size _ rfl, r₁⟩; exact ⟨P₁, _, _, l₁, S', .val _, q₁.q _⟩
theorem ev_cmp1 {op : CmpOp} {l r : Expr} (h : Ev C A (eval l env) σ (thenE C A env r (op2K C A (compareOp op) Q)))
   (hm : behindInMarks op r = false) : Ev C A (eval (.Compare l [op] [r] pos) env) σ Q := by
 intro P s S; exact wpAny_Compare1 (h.run S fun P₁ v₁ a σ₁ s₁ l₁ S₁ r₁ q₁ => q₁.run S₁ fun P₂ v₂ b σ₂ s₂ l₂ S₂ r₂ q₂ => weakPost (l₁.trans l₂) (q₂ P₂ s₂ v₁ v₂ S₂ (r₁.mono l₂) r₂)) hm
theorem it_cmp1 {op : CmpOp} {l r : Expr} {whole : Sem Value} {Q : Bool -> St -> Prop} (h : Ev C A (eval l env) σ (thenE C A env r (op2K C A (compareOp op) (BoolK Q))))
   (hm : behindInMarks op r = false) : Eb C A (isTrue (.Compare l [op] [r] pos) env whole) σ Q := by
 intro P s S; refine wpAny_isTrue_Compare1 (h.run S fun P₁ v₁ a σ₁ s₁ l₁ S₁ r₁ q₁ => q₁.run S₁ fun P₂ v₂ b σ₂ s₂ l₂ S₂ r₂ q₂ => wpAny_mono (q₂ P₂ s₂ v₁ v₂ S₂ (r₁.mono l₂) r₂) (fun v₃ s₃ hzz => ?_) fun _ _ x => x) hm; obtain ⟨P₃, c, σ₃, l₃, S₃, r₃, t, e, q₃⟩ := hzz; subst e; obtain rfl := r₃.bool_inv; exact wpAny_truthy_bool ⟨P₃, t, σ₃, (l₁.trans l₂).trans l₃, S₃, rfl, q₃⟩
theorem it_plain {e : Expr} {whole : Sem Value} {Q : Bool -> St -> Prop} (h : Ev C A whole σ (op1K RB C A truthy Q)) (he : isTrue e env whole = (do let v <- whole; standAt e.pos; holding [v] (truthy v))) : Eb C A (isTrue e env whole) σ Q := by
 intro P s S; exact isTrue_plain (h.run S fun P₁ v₁ a σ₁ s₁ l₁ S₁ r₁ q₁ => weakPost l₁ (q₁ P₁ s₁ v₁ S₁ r₁)) he
theorem it_not {e : Expr} {whole : Sem Value} {Q : Bool -> St -> Prop} (h : Eb C A (isTrue e env (eval e env)) σ fun b σ₁ => Q (!b) σ₁) : Eb C A (isTrue (.UnaryOp .Not e pos) env whole) σ Q := by
 intro P s S; refine isTrue_not (h.run S fun P₁ v₁ a σ₁ s₁ l₁ S₁ r₁ q₁ => ⟨P₁, _, σ₁, l₁, S₁, ?_, q₁⟩); rw [r₁]
theorem it_and {e : Expr} {rest : List Expr} {whole : Sem Value} {Q : Bool -> St -> Prop} (h : Eb C A (isTrue e env (eval e env)) σ fun b σ₁ => if b then Eb C A (isTrue (.BoolOp .And rest pos) env whole) σ₁ Q else Q false σ₁) : Eb C A (isTrue (.BoolOp .And (e :: rest) pos) env whole) σ Q := by
 intro P s S; refine isTrue_and (h.run S fun P₁ v₁ a σ₁ s₁ l₁ S₁ r₁ q₁ => ?_); cases r₁
 cases v₁ with
 | true => simp only [if_true] at q₁ ⊢; exact q₁.postLe l₁ S₁
 | false => simp only [Bool.false_eq_true, if_false] at q₁ ⊢; exact ⟨P₁, _, σ₁, l₁, S₁, rfl, q₁⟩
theorem it_and_nil {whole : Sem Value} {Q : Bool -> St -> Prop} (h : Q true σ) : Eb C A (isTrue (.BoolOp .And [] pos) env whole) σ Q := fun P s S => isTrue_and_nil (Post.mk (R := RB) S rfl h)
theorem it_or {e : Expr} {rest : List Expr} {whole : Sem Value} {Q : Bool -> St -> Prop} (h : Eb C A (isTrue e env (eval e env)) σ fun b σ₁ => if b then Q true σ₁ else Eb C A (isTrue (.BoolOp .Or rest pos) env whole) σ₁ Q) : Eb C A (isTrue (.BoolOp .Or (e :: rest) pos) env whole) σ Q := by
 intro P s S; refine isTrue_or (h.run S fun P₁ v₁ a σ₁ s₁ l₁ S₁ r₁ q₁ => ?_); cases r₁
 cases v₁ with
 | true => simp only [if_true] at q₁ ⊢; exact ⟨P₁, _, σ₁, l₁, S₁, rfl, q₁⟩
 | false => simp only [Bool.false_eq_true, if_false] at q₁ ⊢; exact q₁.postLe l₁ S₁
theorem it_or_nil {whole : Sem Value} {Q : Bool -> St -> Prop} (h : Q false σ) : Eb C A (isTrue (.BoolOp .Or [] pos) env whole) σ Q := fun P s S => isTrue_or_nil (Post.mk (R := RB) S rfl h)
theorem ev_ifexp {t b o : Expr} (h : Eb C A (isTrue t env (eval t env)) σ fun c σ₁ => if c then Ev C A (eval b env) σ₁ Q else Ev C A (eval o env) σ₁ Q) : Ev C A (eval (.IfExp t b o pos) env) σ Q := by
 intro P s S
 show wpAny _ _ (do if <- isTrue t env (eval t env) then eval b env else eval o env) _ _ _
 refine wpAny_bind (h.run S fun P₁ v₁ a σ₁ s₁ l₁ S₁ r₁ q₁ => ?_); cases r₁
 cases v₁ with
 | true => simp only [if_true] at q₁ ⊢; exact q₁.postLe l₁ S₁
 | false => simp only [Bool.false_eq_true, if_false] at q₁ ⊢; exact q₁.postLe l₁ S₁
theorem ev_un {op : UnaryOp} {e : Expr} (h : Ev C A (eval e env) σ (op1K VR C A (unaryOp op) Q)) : Ev C A (eval (.UnaryOp op e pos) env) σ Q := by
 intro P s S
 show wpAny _ _ (do let v <- eval e env; standAt pos; holding [v] (unaryOp op v)) _ _ _
 exact wpAny_bind (h.run S fun P₁ v₁ a σ₁ s₁ l₁ S₁ r₁ q₁ => wpAny_bind (wpAny_standAt (wpAny_holding (weakPost l₁ (q₁ P₁ s₁ v₁ S₁ r₁)))))
theorem un_neg {i : Int} (hQ : Q (.int (-i)) σ) : Op1 VR C A (unaryOp .USub) (.int i) σ Q := by
 rintro P s v0 S r0; obtain ⟨t0, rfl⟩ := r0.int_inv; exact PySem.P.neg_int (Post.mk (S.toks _) (.int _ _) hQ)
end
end
section
section
variable {C : Cx} {A : Around} {σ σ' σ'' : St} {env : Env} {L : Addr} {names : List (Str × NameKind)} {cells : List (Str × Addr)} {x : Str} {pos pos' : Pos} {d : AV} {P : Pool} {s : Shared} {v : Value}
theorem bin_mul {i j : Int} (hQ : Q (.int (i * j)) σ) (h : (-(2 ^ 64) < i /\ i < 2 ^ 64) \/ (-(2 ^ 64) < j /\ j < 2 ^ 64)) : Op2 VR C A (binaryOp .Mult) (.int i) (.int j) σ Q := by
 rintro P s v0 v1 S r0 r1; obtain ⟨t0, rfl⟩ := r0.int_inv; obtain ⟨t1, rfl⟩ := r1.int_inv; exact PyProof.Rows.mul_int (Post.mk (S.toks _) (.int _ _) hQ) (h.elim (fun h => IntMulOk.of_left (intBits_le_64 h.1 h.2)) fun h => IntMulOk.of_right (intBits_le_64 h.1 h.2))
theorem bin_mod {i j : Int} (hQ : Q (.int (i % j)) σ) (h : 0 < j) : Op2 VR C A (binaryOp .Mod) (.int i) (.int j) σ Q := by
 rintro P s v0 v1 S r0 r1; obtain ⟨t0, rfl⟩ := r0.int_inv; obtain ⟨t1, rfl⟩ := r1.int_inv; have e : i.fmod j = i % j := Int.fmod_eq_emod_of_nonneg _ (Int.le_of_lt h); exact PyProof.Rows.mod_int (by omega) (Post.mk (S.toks _) (.int _ _) (e ▸ hQ))
theorem bin_div {i j : Int} (hQ : Q (.int (i / j)) σ) (h : 0 < j) (hj : j < 1073741824) : Op2 VR C A (binaryOp .FloorDiv) (.int i) (.int j) σ Q := by
 rintro P s v0 v1 S r0 r1; obtain ⟨t0, rfl⟩ := r0.int_inv; obtain ⟨t1, rfl⟩ := r1.int_inv; have e : i.fdiv j = i / j := Int.fdiv_eq_ediv_of_nonneg _ (Int.le_of_lt h); exact PyProof.Rows.floordiv_int (by omega) (Post.mk (S.toks _) (.int _ _) (e ▸ hQ)) (Or.inl (PyProof.noPylong_small (Int.ofNat_lt.mp (by rw [Int.natAbs_of_nonneg (Int.le_of_lt h)]; exact hj))))
theorem bin_pow {i j : Int} (hQ : Q (.int (i ^ j.toNat)) σ) (h0 : 0 <= j) (h1 : j <= 1000000) (ha : i.natAbs < 2 ^ 64) : Op2 VR C A (binaryOp .Pow) (.int i) (.int j) σ Q := by
 rintro P s v0 v1 S r0 r1; obtain ⟨t0, rfl⟩ := r0.int_inv; obtain ⟨t1, rfl⟩ := r1.int_inv; exact PyProof.Rows.pow_int_small h0 h1 ha (Post.mk (S.toks _) (.int _ _) hQ)
theorem bin_shl {i j : Int} (hQ : Q (.int (i * 2 ^ j.toNat)) σ) (h0 : 0 <= j) (h1 : j <= 1000000) (ha : i.natAbs < 2 ^ 64) : Op2 VR C A (binaryOp .LShift) (.int i) (.int j) σ Q := by
 rintro P s v0 v1 S r0 r1; obtain ⟨t0, rfl⟩ := r0.int_inv; obtain ⟨t1, rfl⟩ := r1.int_inv; exact PyProof.Rows.lshift_int_small h0 h1 ha (Post.mk (S.toks _) (.int _ _) hQ)
theorem inpl_add {i j : Int} (hQ : Q (.int (i + j)) σ) : Op2 VR C A (inplaceOp .Add) (.int i) (.int j) σ Q := by
 rintro P s v0 v1 S r0 r1; obtain ⟨t0, rfl⟩ := r0.int_inv; obtain ⟨t1, rfl⟩ := r1.int_inv; exact PyProof.Rows.iadd_int (Post.mk (S.toks _) (.int _ _) hQ)
theorem bin_add_str {a b : Str} (hQ : Q (.str (a ++ b)) σ) (h : a.length + b.length <= sizeLine) : Op2 VR C A (binaryOp .Add) (.str a) (.str b) σ Q := by
 rintro P s v0 v1 S r0 r1; obtain ⟨t0, rfl⟩ := r0.str_inv; obtain ⟨t1, rfl⟩ := r1.str_inv; exact PyProof.Rows.add_str (fun t' tk => Post.mk (S.toks _) (VR.str _ _) hQ) h
theorem cmp_eq {i j : Int} (hQ : Q (.bool (i == j)) σ) : Op2 VR C A (compareOp .Eq) (.int i) (.int j) σ Q := by
 rintro P s v0 v1 S r0 r1; obtain ⟨t0, rfl⟩ := r0.int_inv; obtain ⟨t1, rfl⟩ := r1.int_inv; exact PyProof.Rows.eq_int (Post.mk S (.bool _) hQ)
theorem cmp_ne {i j : Int} (hQ : Q (.bool (i != j)) σ) : Op2 VR C A (compareOp .NotEq) (.int i) (.int j) σ Q := by
 rintro P s v0 v1 S r0 r1; obtain ⟨t0, rfl⟩ := r0.int_inv; obtain ⟨t1, rfl⟩ := r1.int_inv; exact PyProof.Rows.ne_int (Post.mk S (.bool _) hQ)
theorem cmp_lt {i j : Int} (hQ : Q (.bool (decide (i < j))) σ) : Op2 VR C A (compareOp .Lt) (.int i) (.int j) σ Q := by
 rintro P s v0 v1 S r0 r1; obtain ⟨t0, rfl⟩ := r0.int_inv; obtain ⟨t1, rfl⟩ := r1.int_inv; exact PyProof.Rows.lt_int (Post.mk S (.bool _) hQ)
theorem cmp_le {i j : Int} (hQ : Q (.bool (decide (i <= j))) σ) : Op2 VR C A (compareOp .LtE) (.int i) (.int j) σ Q := by
 rintro P s v0 v1 S r0 r1; obtain ⟨t0, rfl⟩ := r0.int_inv; obtain ⟨t1, rfl⟩ := r1.int_inv; exact PySem.P.le_int (Post.mk S (.bool _) hQ)
theorem cmp_gt {i j : Int} (hQ : Q (.bool (decide (i > j))) σ) : Op2 VR C A (compareOp .Gt) (.int i) (.int j) σ Q := by
 rintro P s v0 v1 S r0 r1; obtain ⟨t0, rfl⟩ := r0.int_inv; obtain ⟨t1, rfl⟩ := r1.int_inv; exact PySem.P.gt_int (Post.mk S (.bool _) hQ)
theorem cmp_ge {i j : Int} (hQ : Q (.bool (decide (i ≥ j))) σ) : Op2 VR C A (compareOp .GtE) (.int i) (.int j) σ Q := by
 rintro P s v0 v1 S r0 r1; obtain ⟨t0, rfl⟩ := r0.int_inv; obtain ⟨t1, rfl⟩ := r1.int_inv; exact PySem.P.ge_int (Post.mk S (.bool _) hQ)
theorem cmp_eq_str {a b : Str} (hQ : Q (.bool (a.cps.toList == b.cps.toList)) σ) : Op2 VR C A (compareOp .Eq) (.str a) (.str b) σ Q := by
 rintro P s v0 v1 S r0 r1; obtain ⟨t0, rfl⟩ := r0.str_inv; obtain ⟨t1, rfl⟩ := r1.str_inv; exact PySem.P.eq_str (Post.mk S (.bool _) hQ)
theorem cmp_ne_str {a b : Str} (hQ : Q (.bool (a.cps.toList != b.cps.toList)) σ) : Op2 VR C A (compareOp .NotEq) (.str a) (.str b) σ Q := by
 rintro P s v0 v1 S r0 r1; obtain ⟨t0, rfl⟩ := r0.str_inv; obtain ⟨t1, rfl⟩ := r1.str_inv; exact PySem.P.ne_str (Post.mk S (.bool _) hQ)
theorem cmp_is_none (hQ : Q (.bool true) σ) : Op2 VR C A (compareOp .Is) .none .none σ Q := by
 rintro P s v0 v1 S r0 r1; obtain rfl := r0.none_inv; obtain rfl := r1.none_inv; exact wpAny_is_self rfl (Post.mk S (.bool _) hQ)
theorem cmp_is_none_ne (hQ : Q (.bool false) σ) (h : ∀ P v, VR P v d -> v ≠ .none) : Op2 VR C A (compareOp .Is) d .none σ Q := by
 rintro P s v v1 S r r1; obtain rfl := r1.none_inv; exact is_none_ne (h P v r) (Post.mk S (.bool _) hQ)
theorem cmp_isnot_bool {a b : Bool} (hQ : Q (.bool (a != b)) σ) : Op2 VR C A (compareOp .IsNot) (.bool a) (.bool b) σ Q := by
 rintro P s v0 v1 S r0 r1; obtain rfl := r0.bool_inv; obtain rfl := r1.bool_inv; cases a <;> cases b <;> exact wpAny_isNot_plain rfl (Post.mk S (.bool _) hQ)
theorem tr_bool {b : Bool} {Q : Bool -> St -> Prop} (hQ : Q b σ) : Op1 RB C A truthy (.bool b) σ Q := by
 rintro P s v0 S r0; obtain rfl := r0.bool_inv; exact wpAny_truthy_bool (Post.mk (R := RB) S rfl hQ)
theorem tr_int {i : Int} {Q : Bool -> St -> Prop} (hQ : Q (i != 0) σ) : Op1 RB C A truthy (.int i) σ Q := by
 rintro P s v0 S r0; obtain ⟨t0, rfl⟩ := r0.int_inv; exact PySem.P.truthy_int (Post.mk (R := RB) S rfl hQ)
theorem tr_list {ds : List AV} {Q : Bool -> St -> Prop} (hd : RdL σ d ds) (hl : ds.length <= sizeLine) (hQ : Q (!ds.isEmpty) σ) : Op1 RB C A truthy d σ Q := by
 intro P s v S r; obtain ⟨a, vs, rfl, h1, h2⟩ := hd.isList S r
 have e : (!(vs.toArray).isEmpty) = !ds.isEmpty := by
   have := h2.length; cases vs <;> cases ds <;> simp_all
 rw [sizeLine_eq] at hl; exact wpAny_truthy_list h1 (by simp [h2.length]; omega) (Post.mk (R := RB) (S.toks _) e hQ)
theorem tr_tuple {ds : List AV} {Q : Bool -> St -> Prop} (hl : ds.length <= sizeLine) (hQ : Q (!ds.isEmpty) σ) : Op1 RB C A truthy (.tuple ds) σ Q := by
 intro P s v S r; obtain ⟨a, vs, rfl, h1, h2⟩ := tup_get S r
 have e : (!(vs.toArray).isEmpty) = !ds.isEmpty := by
   have := h2.length; cases vs <;> cases ds <;> simp_all
 rw [sizeLine_eq] at hl; exact truthy_tuple h1 (by simp [h2.length]; omega) (Post.mk (R := RB) (S.toks _) e hQ)
theorem ev_sub {value slice : Expr} (h : Ev C A (eval value env) σ (thenE C A env slice (op2K C A (subscriptTail value slice) Q))) : Ev C A (eval (.Subscript value slice pos) env) σ Q := by
 intro P s S; exact Subscript_ (h.run S fun P₁ v₁ a σ₁ s₁ l₁ S₁ r₁ q₁ => q₁.run S₁ fun P₂ v₂ b σ₂ s₂ l₂ S₂ r₂ q₂ => weakPost (l₁.trans l₂) (q₂ P₂ s₂ v₁ v₂ S₂ (r₁.mono l₂) r₂))
noncomputable def ixOk (k : Int) (n : Nat) (j : Nat) : Prop := (0 <= k /\ k.toNat = j) \/ (k < 0 /\ (k + n) = (j : Int))
theorem gi_list {ds : List AV} {k : Int} {e : AV} (hd : RdL σ d ds) (h0 : 0 <= k) (h1 : k < 2 ^ 63) (he : ds[k.toNat]? = some e) (hQ : Q e σ) : Op2 VR C A getItem d (.int k) σ Q := by
 rintro P s v v1 S r r1; obtain ⟨t1, rfl⟩ := r1.int_inv; obtain ⟨a, vs, rfl, g1, g2⟩ := hd.isList S r; obtain ⟨w, e1, e2⟩ := g2.get he; exact wpAny_getItem_list g1 h0 h1 (by simpa using e1) (Post.mk S e2 hQ)
theorem gi_list_neg {ds : List AV} {k : Int} {e : AV} (hd : RdL σ d ds) (h0 : k < 0) (h1 : -(ds.length : Int) <= k) (h2 : -(2 ^ 63) <= k) (he : ds[(k + ds.length).toNat]? = some e) (hQ : Q e σ) : Op2 VR C A getItem d (.int k) σ Q := by
 rintro P s v v1 S r r1; obtain ⟨t1, rfl⟩ := r1.int_inv; obtain ⟨a, vs, rfl, g1, g2⟩ := hd.isList S r; obtain ⟨w, e1, e2⟩ := g2.get he; exact wpAny_getItem_list_neg g1 h0 (by simpa [g2.length] using h1) h2 (by simpa [g2.length] using e1) (Post.mk S e2 hQ)
theorem seqIndex_nn {k : Int} {n : Nat} (h0 : 0 <= k) (h : k.toNat < n) : seqIndex? k n = some k.toNat := by
 unfold seqIndex?; simp only; have h1 : ¬ k < 0 := Int.not_lt.mpr h0; simp only [h1, if_false]; rw [if_pos]
 simp; exact ⟨h0, (toNat_lt h0).mp h⟩
theorem gi_tuple {ds : List AV} {k : Int} {e : AV} (h0 : 0 <= k) (h1 : k < 2 ^ 63) (he : ds[k.toNat]? = some e) (hQ : Q e σ) : Op2 VR C A getItem (.tuple ds) (.int k) σ Q := by
 rintro P s v v1 S r r1; obtain ⟨t1, rfl⟩ := r1.int_inv; obtain ⟨a, vs, rfl, g1, g2⟩ := tup_get S r; obtain ⟨w, e1, e2⟩ := g2.get he; have hlt : k.toNat < vs.length := (List.getElem?_eq_some_iff.mp e1).1; refine getItem_tuple g1 (Int.le_trans (by decide) h0) h1 (j := k.toNat) ?_ (by simpa using e1) (Post.mk S e2 hQ); exact seqIndex_nn h0 (by simpa using hlt)
theorem gi_dict {ds : List (Int × AV)} {k : Int} {e : AV} (hd : RdD σ d ds) (he : gGet ds k = some e) (hQ : Q e σ) : Op2 VR C A getItem d (.int k) σ Q := by
 rintro P s v v1 S r r1; obtain ⟨t1, rfl⟩ := r1.int_inv; obtain ⟨a, kvs, rfl, q, g1, g2, g3⟩ := hd.get S r; obtain ⟨w, e1, e2⟩ := g2.find.1 _ he; exact wpAny_getItem_of (knd := intKind C.prog C.w) (k := k) (by show (_ == _) = true; simp) g1.mapOf e1 (Post.mk (S.toks _) e2 hQ)
theorem st_list {value slice : Expr} {k : Int} {ds : List AV} (hd : RdL σ d ds) (h : Op2 VR C A getItem d (.int k) σ Q)
   (hs : ∀ o i, subscripted slice false o i = operate [o, i] (getItem o i)) : Op2 VR C A (subscriptTail value slice) d (.int k) σ Q := by
 intro P s v u S r r'; have g := h P s v u S r r'; obtain ⟨a, vs, rfl, g1, g2⟩ := hd.isList S r; exact tail_any g1.typeIs slot_list_getitem.lookup g (hs _ _)
theorem st_tuple {value slice : Expr} {k : Int} {ds : List AV} (h : Op2 VR C A getItem (.tuple ds) (.int k) σ Q)
   (hs : ∀ o i, subscripted slice false o i = operate [o, i] (getItem o i)) : Op2 VR C A (subscriptTail value slice) (.tuple ds) (.int k) σ Q := by
 intro P s v u S r r'; have g := h P s v u S r r'; obtain ⟨a, vs, rfl, g1, g2⟩ := tup_get S r; exact tail_any g1.typeIs slot_tuple_getitem.lookup g (hs _ _)
theorem st_listN {value slice : Expr} {i : Nat} {ds : List AV} {e : AV} (hd : RdL σ d ds) (hi : i < 1000000000) (he : ds[i]? = some e) (hs : ∀ o i, subscripted slice false o i = operate [o, i] (getItem o i)) (hQ : Q e σ) : Op2 VR C A (subscriptTail value slice) d (.int i) σ Q :=
 st_list hd (gi_list hd (by omega) (by omega) he hQ) hs
theorem st_tupN {value slice : Expr} (i : Nat) {ds : List AV} {e : AV} (hi : i < 1000000000) (he : ds[i]? = some e) (hs : ∀ o i, subscripted slice false o i = operate [o, i] (getItem o i)) (hQ : Q e σ) : Op2 VR C A (subscriptTail value slice) (.tuple ds) (.int i) σ Q :=
 st_tuple (gi_tuple (by omega) (by omega) he hQ) hs
theorem st_dict {value slice : Expr} {k : AV} {ds : List (Int × AV)} (hd : RdD σ d ds) (h : Op2 VR C A getItem d k σ Q)
   (hs : ∀ o i, subscripted slice false o i = operate [o, i] (getItem o i)) : Op2 VR C A (subscriptTail value slice) d k σ Q := by
 intro P s v u S r r'; have g := h P s v u S r r'; obtain ⟨a, kvs, rfl, q, g1, g2, g3⟩ := hd.get S r; exact tail_any g1.mapOf.typeIs slot_dict_getitem.lookup g (hs _ _)
theorem si_list {a : Addr} {ds : List AV} {k : Int} {e : AV} {Q : Unit -> St -> Prop} (hu : Upd σ a (.wlist ds) (.wlist (ds.set k.toNat e)) σ') (h0 : 0 <= k) (h1 : k < ds.length) (h2 : ds.length <= sizeLine) (hQ : Q () σ') : Op3 RU C A setItem (.val (.ref a)) (.int k) e σ Q := by
 intro P s v0 v1 u S r0 r1 r; obtain rfl := r0.val_inv; obtain ⟨t1, rfl⟩ := r1.int_inv; obtain ⟨o, vs, n, g1, g2, g3, g4⟩ := S.ents _ hu.mem; rw [sizeLine_eq] at h2; refine wpAny_setItem_list ⟨o, g1, g2, n, g3⟩ h0 (by omega) (by simp [g4.length]; omega) fun h' hl hs => ?_; obtain ⟨o', e1, e2, n', e3⟩ := hl; have S' := S.upd hu (h' := h') s.toks hs.extBut ⟨o', vs.set k.toNat u, n', e1, e2, by rw [e3]; congr 1; simp, g4.set _ r⟩; exact Post.mk (b := ()) S' trivial hQ
theorem si_dict {a : Addr} {ds : List (Int × AV)} {k : Int} {e : AV} {Q : Unit -> St -> Prop} (hu : Upd σ a (.dict ds) (.dict (gPut ds k e)) σ') (h2 : ds.length <= sizeLine) (hQ : Q () σ') : Op3 RU C A setItem (.val (.ref a)) (.int k) e σ Q := by
 intro P s v0 v1 u S r0 r1 r; obtain rfl := r0.val_inv; obtain ⟨t1, rfl⟩ := r1.int_inv; obtain ⟨a', kvs, e', q, g0, g1, g3⟩ := (RdD.led hu.mem).get S (VR.val (.ref a)); obtain rfl := Value.ref.inj e'; refine wpAny_setItem_pairs (knd := intKind C.prog C.w) (k := k) (by show (_ == _) = true; simp) g0 (fun h' hd hs => ?_) (by rw [g1.length]; exact h2); obtain ⟨o, es, ep, e1, e2, e3, e4, e5, e6⟩ := hd; have S' := S.upd hu (h' := h') (s.toks + 1) hs.extBut ⟨q, o, es.toList, ep, e1, e2, by rw [e3], VRd.of_pairs (fun e he => e4 e (by simpa using he)) e5 (g1.stored r (kvs := kvs) g3), gPut_nd g3⟩; exact Post.mk (b := ()) S' trivial hQ
theorem in_dict {ds : List (Int × AV)} {k : Int} (hd : RdD σ d ds) (hQ : Q (.bool (gGet ds k).isSome) σ) : Op2 VR C A (compareOp .In) (.int k) d σ Q := by
 intro P s v0 u S r0 r; obtain ⟨t0, rfl⟩ := r0.int_inv; obtain ⟨a, kvs, rfl, q, g1, g2, g3⟩ := hd.get S r
 have e : (valueAt kvs k).isSome = (gGet ds k).isSome := by
   cases h : gGet ds k with
   | none => rw [g2.find.2 h]; rfl
   | some e => obtain ⟨w, e1, _⟩ := g2.find.1 _ h; rw [e1]; rfl
 rw [<- e] at hQ; exact wpAny_in_of (knd := intKind C.prog C.w) (k := k) (by show (_ == _) = true; simp) q g1.mapOf (Post.mk (S.toks _) (VR.bool _) hQ)
end
end
section
inductive VRk (P : Pool) : List (Str × Value) -> List (Str × AV) -> Prop
 | nil : VRk P [] []
 | cons {k : Str} {v : Value} {d : AV} {kvs : List (Str × Value)} {ds : List (Str × AV)} : VR P v d -> VRk P kvs ds -> VRk P ((k, v) :: kvs) ((k, d) :: ds)
theorem VRk.mono {P P' : Pool} (hp : PLe P P') {kvs : List (Str × Value)} {ds : List (Str × AV)} (h : VRk P kvs ds) : VRk P' kvs ds := by
 induction h with
 | nil => exact .nil
 | cons h _ ih => exact .cons (h.mono hp) ih
theorem VRk.zip {P : Pool} (ns : List Str) {vs : List Value} {ds : List AV} (h : VRs P vs ds) : VRk P (ns.zip vs) (ns.zip ds) := by
 induction ns generalizing vs ds with
 | nil => exact .nil
 | cons n ns ih =>
   cases ds with
   | nil => obtain rfl := h.nil_inv; exact .nil
   | cons d ds => obtain ⟨v, ws, e, r, h'⟩ := h.cons_inv; rw [e]; exact .cons r (ih h')
noncomputable def CallV (C : Cx) (A : Around) (f : AV) (ds : List AV) (ks : List (Str × AV)) (σ : St) (Q : AV -> St -> Prop) : Prop :=
 ∀ P s v vs kvs, Sat C P σ s -> VR P v f -> VRs P vs ds -> VRk P kvs ks -> wpAny (model C.prog C.w) A (call v vs kvs) (Post VR C P Q) No s
theorem VRk.nil_inv {P : Pool} {kvs : List (Str × Value)} (h : VRk P kvs []) : kvs = [] := by cases h; rfl
theorem CallV.v1 {C : Cx} {A : Around} {σ : St} {x : Value} {a : AV} (h : ∀ P s v, Sat C P σ s -> VR P v a -> wpAny (model C.prog C.w) A (call x [v] []) (Post VR C P Q) No s) : CallV C A (.val x) [a] [] σ Q := fun P s f vs kvs S rf rs rk => by
 obtain rfl := rf.val_inv; obtain ⟨v, rfl, r⟩ := rs.inv1; obtain rfl := rk.nil_inv; exact h P s v S r
theorem CallV.v2 {C : Cx} {A : Around} {σ : St} {x : Value} {a b : AV} (h : ∀ P s v u, Sat C P σ s -> VR P v a -> VR P u b -> wpAny (model C.prog C.w) A (call x [v, u] []) (Post VR C P Q) No s) : CallV C A (.val x) [a, b] [] σ Q := fun P s f vs kvs S rf rs rk => by
 obtain rfl := rf.val_inv; obtain ⟨v, u, rfl, r, r'⟩ := rs.inv2; obtain rfl := rk.nil_inv; exact h P s v u S r r'
theorem CallV.v3 {C : Cx} {A : Around} {σ : St} {x : Value} {a b c : AV} (h : ∀ P s v u w, Sat C P σ s -> VR P v a -> VR P u b -> VR P w c -> wpAny (model C.prog C.w) A (call x [v, u, w] []) (Post VR C P Q) No s) : CallV C A (.val x) [a, b, c] [] σ Q := fun P s f vs kvs S rf rs rk => by
 obtain rfl := rf.val_inv; obtain ⟨v, u, w, rfl, r, r', r''⟩ := rs.inv3; obtain rfl := rk.nil_inv; exact h P s v u w S r r' r''
inductive Callee : AV -> Prop
 | builtin (id : String) : Callee (.val (.builtin id))
 | type (T : String) : Callee (.val (.type T))
 | fn (fd : FuncData) : Callee (.fn fd)
section
variable {C : Cx} {A : Around} {σ σ' σ'' : St} {env : Env} {L : Addr} {names : List (Str × NameKind)} {cells : List (Str × Addr)} {x : Str} {pos pos' : Pos} {d : AV} {P : Pool} {s : Shared} {v : Value}
@[reducible] noncomputable def callK3 (C : Cx) (A : Around) (env : Env) (pos : Pos) (kws : List Keyword) (first : List AV) (f : AV) (Q : AV -> St -> Prop) (ds ks : List AV) (σ : St) : Prop :=
 CallV C A f (first ++ ds) (((backToKw pos (keywordEach kws env)).filterMap (·.1)).zip ks) σ Q
@[reducible] noncomputable def callK2 (C : Cx) (A : Around) (env : Env) (pos : Pos) (kws : List Keyword) (first : List AV) (f : AV) (Q : AV -> St -> Prop) (ds : List AV) (σ : St) : Prop :=
 Evs C A (evalAll ((backToKw pos (keywordEach kws env)).map (·.2))) σ (callK3 C A env pos kws first f Q ds)
inductive CallW (C : Cx) (A : Around) (env : Env) (pos : Pos) (args : List Expr) (kws : List Keyword) (first : List AV) (f : AV) (σ : St) (Q : AV -> St -> Prop) : Prop
 | mk (hc : Callee f) (h : Evs C A (spliced (backTo pos (starEach args env))) σ (callK2 C A env pos kws first f Q))
inductive CallK (C : Cx) (A : Around) (env : Env) (pos : Pos) (args : List Expr) (kws : List Keyword) (Q : AV -> St -> Prop) (f : AV) (σ : St) : Prop
 | mk (h0 : kws = [] \/ ∀ T, f ≠ .val (.type T)) (h : CallW C A env pos args kws [] f σ Q)
theorem callW_run {args : List Expr} {kws : List Keyword} {first : List AV} {fvs : List Value} {f : AV} (h : CallW C A env pos args kws first f σ Q)
   (ha : (backTo pos (starEach args env)).any (·.1) = false) (hk : (backToKw pos (keywordEach kws env)).any (·.1.isNone) = false) (hk' : (backToKw pos (keywordEach kws env)).all (·.1.isSome) = true)
   (hb : ∃ x rest, backTo pos (starEach args env) = (false, x) :: rest) (hkf : kws = [] \/ ∀ T, f ≠ .val (.type T))
   (S : Sat C P σ s) (r : VR P v f) (rf : VRs P fvs first) : wpAny (model C.prog C.w) A (callWith pos v fvs (backTo pos (starEach args env)) (backToKw pos (keywordEach kws env))) (Post VR C P Q) No s := by
 obtain ⟨hc, q₁⟩ := h
 have go : ∀ (K : Args -> Shared -> Prop), (∀ P₂ vs ds ks es σ₂ s₂, PLe P P₂ -> Sat C P₂ σ₂ s₂ -> VRs P₂ vs ds -> VRs P₂ ks es -> CallV C A f (first ++ ds) (((backToKw pos (keywordEach kws env)).filterMap (·.1)).zip es) σ₂ Q ->
     K ⟨vs, ((backToKw pos (keywordEach kws env)).filterMap (·.1)).zip ks⟩ s₂) -> wpAny (model C.prog C.w) A (evalArgs v true (backTo pos (starEach args env)) (backToKw pos (keywordEach kws env))) K No s := by
   intro K hK; obtain ⟨x, rest, e⟩ := hb; rw [e]; refine PySem.evalArgs_kw hk' ?_; rw [<- e]; exact q₁.run S fun P₂ vs ds σ₂ s₂ l₂ S₂ r₂ q₂ => q₂.run S₂ fun P₃ ks es σ₃ s₃ l₃ S₃ r₃ q₃ => hK P₃ vs ds ks es σ₃ s₃ (l₂.trans l₃) S₃ (r₂.mono l₃) r₃ q₃
 cases hc with
 | builtin id =>
   obtain rfl := r.val_inv; refine PyProof.Rows.callWith_builtin_kwB ha hk (go _ fun P₂ vs ds ks es σ₂ s₂ l₂ S₂ r₂ r₃ q₂ => ?_); exact weakPost l₂ (q₂ P₂ s₂ _ _ _ S₂ (.val _) ((rf.mono l₂).append r₂) (VRk.zip _ r₃))
 | type T =>
   obtain rfl := r.val_inv; rcases hkf with rfl | hkf
   . refine PyProof.Rows.callWith_type ha (go _ fun P₂ vs ds ks es σ₂ s₂ l₂ S₂ r₂ r₃ q₂ => ?_); exact weakPost l₂ (q₂ P₂ s₂ _ _ _ S₂ (.val _) ((rf.mono l₂).append r₂) (VRk.zip _ r₃))
   . exact absurd rfl (hkf T)
 | fn fd =>
   obtain ⟨a, o, rfl, ho, hd, hcd⟩ := r.fn_inv; refine PySem.callWith_function_kw (o := o) (fd := fd) (go _ fun P₂ vs ds ks es σ₂ s₂ l₂ S₂ r₂ r₃ q₂ => ⟨⟨S₂.pool _ _ (l₂ _ _ ho), hd⟩, ?_⟩); exact weakPost l₂ (q₂ P₂ s₂ _ _ _ S₂ (.fn (l₂ _ _ ho) hd (hcd.mono l₂)) ((rf.mono l₂).append r₂) (VRk.zip _ r₃))
theorem ev_call {func : Expr} {args : List Expr} {kws : List Keyword}
   (h : Ev C A (eval func env) σ (CallK C A env pos args kws Q))
   (he : eval (.Call func args kws pos) env = (do callWith pos (<- eval func env) [] (backTo pos (starEach args env)) (backToKw pos (keywordEach kws env))))
   (ha : (backTo pos (starEach args env)).any (·.1) = false) (hk : (backToKw pos (keywordEach kws env)).any (·.1.isNone) = false) (hk' : (backToKw pos (keywordEach kws env)).all (·.1.isSome) = true)
   (hb : ∃ x rest, backTo pos (starEach args env) = (false, x) :: rest) : Ev C A (eval (.Call func args kws pos) env) σ Q := by
 intro P s S; rw [he]; refine wpAny_bind (h.run S fun P₁ v₁ f σ₁ s₁ l₁ S₁ r₁ q₁ => ?_); obtain ⟨q0, q₁⟩ := q₁; exact weakPost l₁ (callW_run q₁ ha hk hk' hb q0 S₁ r₁ .nil)
@[reducible] noncomputable def kwK (C : Cx) (A : Around) (env : Env) (pos : Pos) (rest : List Keyword) (Q : List AV -> St -> Prop) (a : AV) (σ : St) : Prop := Evs C A (evalAll ((backToKw pos (keywordEach rest env)).map (·.2))) σ (consK Q a)
theorem kw_nil {Q : List AV -> St -> Prop} (h : Q [] σ) : Evs C A (evalAll ((backToKw pos (keywordEach [] env)).map (·.2))) σ Q := fun P s S => wpAny_pure (Post.mk S VRs.nil h)
theorem kw_cons {n : Option Str} {e : Expr} {p : Pos} {rest : List Keyword} {Q : List AV -> St -> Prop}
   (h : Ev C A (eval e env) σ (kwK C A env pos rest Q)) : Evs C A (evalAll ((backToKw pos (keywordEach (⟨n, e, p⟩ :: rest) env)).map (·.2))) σ Q := by
 intro P s S
 show wpAny _ _ (evalAll ((do let v <- eval e env; standAt pos; pure v) :: (backToKw pos (keywordEach rest env)).map (·.2))) _ _ _
 refine PySem.wpAny_evalAll_cons (wpAny_bind (h.run S fun P₁ v₁ a σ₁ s₁ l₁ S₁ r₁ q₁ => wpAny_bind (wpAny_standAt (wpAny_pure ?_)))); exact q₁.run S₁ fun P₂ vs as σ₂ s₂ l₂ S₂ r₂ q₂ => ⟨P₂, a :: as, σ₂, l₁.trans l₂, S₂, .cons (r₁.mono l₂) r₂, q₂⟩
noncomputable def Meth (C : Cx) (A : Around) (name : Str) (pl : Sem Bool) (a : AV) (σ : St) (f : AV) (first : List AV) : Prop :=
 ∀ P s v, Sat C P σ s -> VR P v a -> ∀ (K : Value × List Value -> Shared -> Prop), (∀ s' fv fvs, Sat C P σ s' -> VR P fv f -> VRs P fvs first -> K (fv, fvs) s') -> wpAny (model C.prog C.w) A (getMethod v name pl) K No s
inductive MethK (C : Cx) (A : Around) (name : Str) (pl : Sem Bool) (env : Env) (pos : Pos) (args : List Expr) (Q : AV -> St -> Prop) (a : AV) (σ : St) : Prop
 | mk (f : AV) (first : List AV) (hm : Meth C A name pl a σ f first) (h : CallW C A env pos args [] first f σ Q)
theorem ev_mcall {o : Expr} {name : Str} {apos : Pos} {args : List Expr} {pl : Sem Bool}
   (h : Ev C A (eval o env) σ (MethK C A name pl env pos args Q))
   (he : eval (.Call (.Attribute o name apos) args [] pos) env = (do
     let ov <- eval o env
     standAt apos.atName
     let (f, first) <- holding [ov] (getMethod ov name pl)
     callWith pos f first (backTo pos (starEach args env)) []))
   (ha : (backTo pos (starEach args env)).any (·.1) = false) (hb : ∃ x rest, backTo pos (starEach args env) = (false, x) :: rest) : Ev C A (eval (.Call (.Attribute o name apos) args [] pos) env) σ Q := by
 intro P s S; refine PyProof.Rows.MethodCall_ (pl := pl) (h.run S fun P₁ v₁ a σ₁ s₁ l₁ S₁ r₁ q₁ => ?_) he
 obtain ⟨f, first, hm, hw⟩ := q₁
 exact hm P₁ s₁ v₁ S₁ r₁ _ fun s' fv fvs S' rf rfs => weakPost l₁ (callW_run hw ha rfl rfl hb (.inl rfl) S' rf rfs)
theorem ev_mcall0 {o : Expr} {name : Str} {apos : Pos} {pl : Sem Bool}
   (h : Ev C A (eval o env) σ fun a σ₁ => ∃ id first, Meth C A name pl a σ₁ (.val (.builtin id)) first /\ CallV C A (.val (.builtin id)) first [] σ₁ Q)
   (he : eval (.Call (.Attribute o name apos) [] [] pos) env = (do
     let ov <- eval o env
     standAt apos.atName
     let (f, first) <- holding [ov] (getMethod ov name pl)
     callWith pos f first (backTo pos (starEach [] env)) [])) : Ev C A (eval (.Call (.Attribute o name apos) [] [] pos) env) σ Q := by
 intro P s S; refine PyProof.Rows.MethodCall_ (pl := pl) (h.run S fun P₁ v₁ a σ₁ s₁ l₁ S₁ r₁ q₁ => ?_) he
 obtain ⟨id, first, hm, hw⟩ := q₁
 refine hm P₁ s₁ v₁ S₁ r₁ _ fun s' fv fvs S' rf rfs => weakPost l₁ ?_; obtain rfl := rf.val_inv; exact PyProof.Rows.callWith_method0 (hw P₁ s' _ fvs [] S' (.val _) rfs .nil)
theorem meth_list {ds : List AV} {a : Addr} {name : Str} {id : String} {pl : Sem Bool} (hm : (a, .list ds) ∈ σ) (slot : Slot "list" name id) (hty : typeOf (.builtin id) = pure (.type "method_descriptor")) : Meth C A name pl (.val (.ref a)) σ (.val (.builtin id)) [.val (.ref a)] := by
 intro P s v0 S r0 K hK; obtain rfl := r0.val_inv; obtain ⟨vs, n, h1, h2⟩ := S.ents _ hm; exact PyProof.Rows.getMethod_list_of slot hty ⟨_, h1, rfl, n, rfl⟩ ⟨_, h1, rfl⟩ (hK s _ _ S (.val _) (.cons (.val _) .nil))
theorem meth_list_fz {ds : List AV} {name : Str} {id : String} {pl : Sem Bool} (slot : Slot "list" name id) (hty : typeOf (.builtin id) = pure (.type "method_descriptor")) : Meth C A name pl (.list ds) σ (.val (.builtin id)) [.list ds] := by
 intro P s v S r K hK; obtain ⟨a, vs, n, rfl, h1, h2⟩ := r.list_inv; exact PyProof.Rows.getMethod_list_of slot hty ⟨_, S.pool _ _ h1, rfl, _, rfl⟩ ⟨_, S.pool _ _ h1, rfl⟩ (hK s _ _ S (.val _) (.cons r .nil))
end
end
section
structure AOk (n : Nat) (A : Around) : Prop where
 handled : A.handled = none
 depth : A.depth + n <= 900
 units : A.units + 10 * n <= 9000
theorem AOk.deeper {n : Nat} {A : Around} (h : AOk (n + 1) A) (env : Env) : AOk n (A.deeper env) := ⟨h.handled, by have := h.depth; rw [<- add_assoc, add_right_comm] at this; exact this, by
 have := h.units; rw [mul_succ, <- add_assoc, add_right_comm] at this; exact le_trans (add_le_add_right (add_le_add_left (by decide) _) _) this⟩
theorem AOk.room {n : Nat} {A : Around} (h : AOk n A) : A.depth < recursionLimit := lt_of_le_of_lt (le_trans (le_add_right _ _) h.depth) (by decide)
theorem AOk.le {n k : Nat} {A : Around} (h : AOk n A) (hk : k <= n) : AOk k A := ⟨h.handled, le_trans (add_le_add_left hk _) h.depth, le_trans (add_le_add_left (mul_le_mul_left 10 hk) _) h.units⟩
structure ScopeOk (sc : Scope) : Prop where
 kind : sc.kind = .function
 co : sc.isCoroutine = false
 gen : sc.isGenerator = false
 nd : (sc.names.map (·.1)).Nodup
 nodbg : ("__debug__" : Str) ∉ sc.names.map (·.1)
 nocls : ("__classdict__" : Str) ∉ sc.names.map (·.1)
noncomputable def FlowV : AFlow -> AV -> Prop
 | .next, d => d = .none
 | .ret e, d => d = e
 | _, _ => False
inductive RetQ (Q : AV -> St -> Prop) (f : AFlow) (σ' : St) : Prop
 | intro (d : AV) (σ'' : St) (h1 : FlowV f d) (h2 : σ''.Sublist σ') (h3 : Q d σ'')
noncomputable def BindsA (C : Cx) (fd : FuncData) (ds : List AV) (ks : List (Str × AV)) (binds : List (Str × AV)) : Prop :=
 ∀ P s vs kvs, PLe C.P₀ P -> (∀ a o, P a = some o -> s.heap.get? a = some o) -> VRs P vs ds -> VRk P kvs ks -> ∃ bv, BindsTo s fd ⟨vs, kvs⟩ bv /\ VRk P bv binds
theorem VRk.keys {P : Pool} {kvs : List (Str × Value)} {ds : List (Str × AV)} (h : VRk P kvs ds) : kvs.map (·.1) = ds.map (·.1) := by
 induction h with
 | nil => rfl
 | cons _ _ ih => exact congrArg _ ih
theorem VRk.mem {P : Pool} {x : Str} {d : AV} {kvs : List (Str × Value)} {ds : List (Str × AV)} (h : VRk P kvs ds) (hm : (x, d) ∈ ds) : ∃ v, (x, v) ∈ kvs /\ VR P v d := by
 induction h with
 | nil => cases hm
 | cons h _ ih =>
   rcases List.mem_cons.mp hm with e | hm
   . cases e; exact ⟨_, mem_cons_self, h⟩
   . obtain ⟨u, h1, h2⟩ := ih hm; exact ⟨u, mem_cons_of_mem _ h1, h2⟩
section
variable {C : Cx} {A : Around} {σ σ' σ'' : St} {glob : List (Str × AV)}
theorem sat_frame {P : Pool} {s : Shared} {L : Addr} {h₁ : Heap} {bv : List (Str × Value)} {binds : List (Str × AV)} {m0 : List (Str × Option AV)} (S : Sat C P σ s) (tk : Nat) (hL : s.heap.get? L = none)
   (hns : h₁.Ns L (fun x => bv.reverse.lookup x)) (hk : ∀ b o, s.heap.get? b = some o -> h₁.get? b = some o) (rb : VRk P bv binds) (hbn : (binds.map (·.1)).Nodup) (hm0 : (m0.map (·.1)).Nodup)
   (hm : ∀ x av, (x, some av) ∈ m0 -> (x, av) ∈ binds) : Sat C P ((L, .ns m0) :: σ) { s with heap := h₁, toks := tk } := by
 refine S.new hL tk hk ⟨hm0, _, hns, fun x av hx => ?_⟩; obtain ⟨v, h1, h2⟩ := rb.mem (hm x av hx); refine ⟨v, ?_, h2⟩; refine lookup_of_mem ?_ (List.mem_reverse.mpr h1); rw [List.map_reverse]; exact (List.reverse_perm _).nodup_iff.mpr (rb.keys ▸ hbn)
theorem callV_def {fd : FuncData} {body : List PySem.Stmt} {ds : List AV} {ks : List (Str × AV)} {binds : List (Str × AV)} {m0 : List (Str × Option AV)} {n : Nat} (G : Gl C glob) (hA : AOk (n + 1) A)
   (hbody : fd.body = .stmts body) (sc : ScopeOk fd.scope) (hcell : ∀ x ∈ fd.scope.names, x.2 ≠ .cell) (hg : fd.globals = mainGlobals) (hb : fd.builtins = builtinsNs) (hclo : fd.closure = [])
   (hbind : BindsA C fd ds ks binds) (hloc : ∀ x ∈ binds, (x.1, .local) ∈ fd.scope.names) (hbn : (binds.map (·.1)).Nodup) (hm0 : (m0.map (·.1)).Nodup) (hm : ∀ x av, (x, some av) ∈ m0 -> (x, av) ∈ binds)
   (h : ∀ L A' env, AOk n A' -> EnvIs env L fd.scope.names [] -> env.code = fd.code -> Ef C A' (execs body env) ((L, .ns m0) :: σ) (RetQ Q)) : CallV C A (.fn fd) ds ks σ Q := by
 intro P s v vs kvs S r rs rk; obtain ⟨a, o, rfl, ho, hd, hcd⟩ := r.fn_inv; obtain ⟨c, oc, ovs, t, e1, e2, e3, e4⟩ := hcd; obtain ⟨bv, hbt, rb⟩ := hbind P s vs kvs S.base S.pool rs rk
 have hkl : ∀ x ∈ bv, fd.scope.names.lookup x.1 = some .local := fun x hx => by
   have h1 : x.1 ∈ binds.map (·.1) := rb.keys ▸ mem_map_of_mem (f := (·.1)) hx
   obtain ⟨y, hy, e⟩ := List.mem_map.mp h1; exact lookup_of_mem sc.nd (e ▸ hloc y hy)
 refine wpAny_call (codeAny_call_def (fd := fd) hA.room (S.pool _ _ ho) hd (G.nolimit _ S.old) ⟨c, oc, ovs, t, e1, S.pool _ _ e2, e3, e4⟩ hbody hbt hcell hkl (fun h₁ hns hk => ?_) sc.co sc.gen sc.kind); have S₁ := sat_frame (L := s.heap.objs.size) S (s.toks + bv.length) (Heap.get?_none_of_le (le_refl _)) hns hk rb hbn hm0 hm; have hE : EnvIs (callEnv fd s.heap.objs.size a) s.heap.objs.size fd.scope.names [] := envIs_of sc.kind rfl sc.nd sc.nodbg sc.nocls rfl hg hb (fun x c hc => nomatch hc); refine (h _ _ _ (hA.deeper _) hE rfl).run S₁ fun P₂ fl af σ₂ s₂ l₂ S₂ r₂ hzz => ?_; obtain ⟨d, σ₃, hf, hs, hq⟩ := hzz
 cases r₂ with
 | next => cases hf; exact ⟨P₂, _, σ₃, l₂, S₂.sub hs, .none, hq⟩
 | brk => cases hf
 | cont => cases hf
 | ret r => cases hf; exact ⟨P₂, _, σ₃, l₂, S₂.sub hs, r, hq⟩
theorem Sat.news {P : Pool} {s : Shared} (S : Sat C P σ s) {h' : Heap} (tk : Nat) (hk : ∀ b o, s.heap.get? b = some o -> h'.get? b = some o) :
   ∀ (es : St), (es.map (·.1)).Nodup -> (∀ p ∈ es, s.heap.get? p.1 = none /\ EntAt P h' p.1 p.2) -> Sat C P (es ++ σ) { s with heap := h', toks := tk }
 | [], _, _ => S.heap tk hk
 | (a, e) :: es, nd, he => by
   rw [map_cons, nodup_cons] at nd; have S' := Sat.news S tk hk es nd.2 fun p hp => he p (mem_cons_of_mem _ hp); obtain ⟨h1, h2⟩ := he (a, e) mem_cons_self; obtain ⟨q1, q2⟩ := S.none_of_fresh h1; refine ⟨S'.base, S'.pool, fun p hp => ?_, fun p hp => ?_, ?_, S'.os, S'.gens⟩
   . rcases List.mem_cons.mp hp with rfl | hp
     . exact q1
     . exact S'.off p hp
   . rcases List.mem_cons.mp hp with rfl | hp
     . exact h2
     . exact S'.ents p hp
   . show (a :: (es ++ σ).map (·.1)).Nodup
     rw [nodup_cons]; refine ⟨fun hm => ?_, S'.nd⟩; rw [map_append] at hm; exact (List.mem_append.mp hm).elim nd.1 q2
noncomputable def cellNames (names : List (Str × NameKind)) : List Str := (cellsFrom 0 names []).map (·.1)
theorem bindL_get {ko : Str -> Option NameKind} : ∀ (bv : List (Str × Value)) (m : Str -> Option Value) (x : Str) (v : Value), ko x = some .local -> (x, v) ∈ bv -> (bv.map (·.1)).Nodup -> bindL ko bv m x = some v
 | (y, u) :: r, m, x, v, hx, hm, nd => by
   rw [map_cons, nodup_cons] at nd; unfold bindL; rcases List.mem_cons.mp hm with e | hm
   . cases e; rw [if_pos hx]
     have : ∀ (r : List (Str × Value)) (m : Str -> Option Value), y ∉ r.map (·.1) -> bindL ko r m y = m y := by
       intro r
       induction r with
       | nil => intro m _; rfl
       | cons p r ih =>
         intro m hn; simp only [map_cons, mem_cons, not_or] at hn; unfold bindL; rw [ih _ hn.2]; split
         . simp [hn.1]
         . rfl
     rw [this r _ nd.1]; simp
   . exact bindL_get r _ x v hx hm nd.2
theorem bindC_get {ko : Str -> Option NameKind} : ∀ (bv : List (Str × Value)) (m : Str -> Option Value) (x : Str) (v : Value), ko x ≠ some .local -> (x, v) ∈ bv -> (bv.map (·.1)).Nodup -> bindC ko bv m x = some v
 | (y, u) :: r, m, x, v, hx, hm, nd => by
   rw [map_cons, nodup_cons] at nd; unfold bindC; rcases List.mem_cons.mp hm with e | hm
   . cases e; rw [if_neg hx]
     have : ∀ (r : List (Str × Value)) (m : Str -> Option Value), y ∉ r.map (·.1) -> bindC ko r m y = m y := by
       intro r
       induction r with
       | nil => intro m _; rfl
       | cons p r ih =>
         intro m hn; simp only [map_cons, mem_cons, not_or] at hn; unfold bindC; rw [ih _ hn.2]; split
         . rfl
         . simp [hn.1]
     rw [this r _ nd.1]; simp
   . exact bindC_get r _ x v hx hm nd.2
noncomputable def cellEnts (cn : List (Str × Addr)) (bs : List (Str × AV)) : St := cn.map fun p => (p.2, .cell (bs.lookup p.1))
theorem zip_fst_snd : ∀ (l : List (Str × Addr)), l = (l.map (·.1)).zip (l.map (·.2))
 | [] => rfl
 | p :: l => by rw [map_cons, map_cons, List.zip_cons_cons, <- zip_fst_snd l]
theorem mem_of_lookup' {α : Type} {l : List (Str × α)} {n : Str} {c : α} (h : l.lookup n = some c) : (n, c) ∈ l := PySem.mem_of_lookup h
theorem callV_cells {fd : FuncData} {body : List PySem.Stmt} {ds : List AV} {pn : List Str} {cn : List Str} {m0 : List (Str × Option AV)} {n : Nat} (G : Gl C glob) (hA : AOk (n + 1) A)
   (hbody : fd.body = .stmts body) (sc : ScopeOk fd.scope) (hg : fd.globals = mainGlobals) (hb : fd.builtins = builtinsNs) (hclo : fd.closure = [])
   (hcn : cellNames fd.scope.names = cn) (hcnd : cn.Nodup) (hck : ∀ x ∈ cn, (x, .cell) ∈ fd.scope.names)
   (hbind : ∀ vs : List Value, vs.length = ds.length -> bindArgs fd ⟨vs, []⟩ = pure (pn.zip vs)) (hpl : pn.length = ds.length)
   (hloc : ∀ x ∈ pn, (x, .local) ∈ fd.scope.names \/ ((x, .cell) ∈ fd.scope.names /\ x ∈ cn)) (hpn : pn.Nodup) (hm0 : (m0.map (·.1)).Nodup) (hm : ∀ x av, (x, some av) ∈ m0 -> (x, .local) ∈ fd.scope.names /\ (x, av) ∈ pn.zip ds)
   (h : ∀ L A' env (ca : List Addr), ca.length = cn.length -> AOk n A' -> EnvIs env L fd.scope.names (cn.zip ca) -> env.code = fd.code -> env.qual = fd.qualname ++ ".<locals>." -> Ef C A' (execs body env) ((L, .ns m0) :: (cellEnts (cn.zip ca) (pn.zip ds) ++ σ)) (RetQ Q)) :
   CallV C A (.fn fd) ds [] σ Q := by
 intro P s v vs kvs S r rs rk; cases rk; obtain ⟨a, o, rfl, ho, hd, hcd⟩ := r.fn_inv; obtain ⟨c, oc, ovs, t, e1, e2, e3, e4⟩ := hcd; have rb : VRk P (pn.zip vs) (pn.zip ds) := VRk.zip pn rs
 have hkeys : (pn.zip vs).map (·.1) = pn := List.map_fst_zip (by rw [rs.length, hpl]; exact le_refl _)
 have key : ∀ x k, (x, k) ∈ fd.scope.names -> fd.scope.names.lookup x = some k := fun x k hx => lookup_of_mem sc.nd hx
 have hcf : (cellsFrom (s.heap.objs.size + 1) fd.scope.names []).map (·.1) = cn := by rw [<- hcn]; exact cellsFrom_names _ _ _ _ _ rfl
 have hcfl : ∀ x ∈ cn, ((cellsFrom (s.heap.objs.size + 1) fd.scope.names []).lookup x).isSome = true := fun x hx => by
   rw [<- hcf] at hx; obtain ⟨p, hp, e⟩ := List.mem_map.mp hx; rw [lookup_of_mem (k := p.2) (by rw [hcf]; exact hcnd) (by rw [<- e]; exact hp)]; rfl
 refine wpAny_call (codeAny_call_cells (fd := fd) (binds := pn.zip vs) hA.room (S.pool _ _ ho) hd (G.nolimit _ S.old) ⟨c, oc, ovs, t, e1, S.pool _ _ e2, e3, e4⟩ hbody (hbind vs rs.length) hclo (fun x hx => ?_) (fun s₁ x₁ => ?_) sc.co sc.gen sc.kind)
 . have h1 : x.1 ∈ pn := by rw [<- hkeys]; exact mem_map_of_mem (f := (·.1)) hx
   rcases hloc _ h1 with q | ⟨q, q'⟩
   . exact .inl (key _ _ q)
   . exact .inr ⟨key _ _ q, hcfl _ q'⟩
 . obtain ⟨h₁, tk, rfl, hk⟩ := x₁.done
   let env := callEnvC fd s.heap.objs.size a
   have hcells : env.cells = cellsFrom (s.heap.objs.size + 1) fd.scope.names [] := rfl
   have hE : EnvIs env s.heap.objs.size fd.scope.names (cn.zip (env.cells.map (·.2))) := envIs_of sc.kind rfl sc.nd sc.nodbg sc.nocls rfl hg hb (fun x c hc => by
     rw [<- hcf, <- hcells, <- zip_fst_snd] at hc; exact lookup_of_mem (by rw [hcells, hcf]; exact hcnd) hc)
   have hnew : ∀ b, s.heap.objs.size <= b -> s.heap.get? b = none := fun b hb => Heap.get?_none_of_le hb
   have S₁ : Sat C P ((s.heap.objs.size, .ns m0) :: (cellEnts (cn.zip (env.cells.map (·.2))) (pn.zip ds) ++ σ)) { s with heap := h₁, toks := tk } := by
     refine Sat.news S (h' := h₁) tk hk ((s.heap.objs.size, .ns m0) :: cellEnts (cn.zip (env.cells.map (·.2))) (pn.zip ds)) ?_ ?_
     . have e : (cellEnts (cn.zip (env.cells.map (·.2))) (pn.zip ds)).map (·.1) = env.cells.map (·.2) := by
         unfold cellEnts; rw [map_map]
         show (cn.zip (env.cells.map (·.2))).map (·.2) = _
         exact List.map_snd_zip (by rw [<- hcf, <- hcells]; simp)
       rw [map_cons, e, nodup_cons]; refine ⟨fun hm => ?_, ?_⟩
       . obtain ⟨p, hp, e⟩ := List.mem_map.mp hm; have := x₁.above p.1 p.2 hp; have e' : p.2 = s.heap.objs.size := e; rw [e'] at this; exact absurd this (lt_irrefl _)
       . exact List.pairwise_map.mpr x₁.apart
     . intro p hp; rcases List.mem_cons.mp hp with rfl | hp
       . refine ⟨hnew _ (le_refl _), hm0, _, x₁.toInCall.ns, fun x av hx => ?_⟩; obtain ⟨q1, q2⟩ := hm x av hx; obtain ⟨v, g1, g2⟩ := rb.mem q2; exact ⟨v, bindL_get _ _ _ _ (key _ _ q1) g1 (by rw [hkeys]; exact hpn), g2⟩
       . obtain ⟨p', hp', rfl⟩ := List.mem_map.mp hp; rw [<- hcf, <- hcells, <- zip_fst_snd] at hp'; have habove := x₁.above p'.1 p'.2 hp'; have hlk : env.cells.lookup p'.1 = some p'.2 := lookup_of_mem (by rw [hcells, hcf]; exact hcnd) hp'
         have hcellk : (p'.1, NameKind.cell) ∈ fd.scope.names := hck _ (by rw [<- hcf, <- hcells]; exact mem_map_of_mem (f := (·.1)) hp')
         refine ⟨hnew _ (le_of_lt habove), _, x₁.cell _ _ hlk, fun av hav => ?_⟩; obtain ⟨v, g1, g2⟩ := rb.mem (mem_of_lookup' hav); exact ⟨v, bindC_get _ _ _ _ (by show fd.scope.names.lookup p'.1 ≠ _; rw [key _ _ hcellk]; simp) g1 (by rw [hkeys]; exact hpn), g2⟩
   refine (h _ _ _ (env.cells.map (·.2)) (by rw [<- hcf, <- hcells]; simp) (hA.deeper _) hE rfl rfl).run S₁ fun P₂ fl af σ₂ s₂ l₂ S₂ r₂ hzz => ?_
   obtain ⟨d, σ₃, hf, hs, hq⟩ := hzz
   cases r₂ with
   | next => cases hf; exact ⟨P₂, _, σ₃, l₂, S₂.sub hs, .none, hq⟩
   | brk => cases hf
   | cont => cases hf
   | ret r => cases hf; exact ⟨P₂, _, σ₃, l₂, S₂.sub hs, r, hq⟩
end
end
section
theorem byK (G : Prop) (h : ∀ K : Prop, (G -> K) -> K) : G := h G id
inductive NoMore (C : Cx) (P : Pool) (σ : St) (r : Option Value) (s₁ : Shared) : Prop
 | intro (e : r = none) (P' : Pool) (es' : St) (l : PLe P P') (S : Sat C P' (es' ++ σ) s₁)
inductive Got (C : Cx) (P : Pool) (σ : St) (d : AV) (T : St -> Prop) (v : Value) (s₂ : Shared) : Prop
 | intro (P' : Pool) (es' : St) (l : PLe P P') (S : Sat C P' (es' ++ σ) s₂) (r : VR P' v d) (t : T es')
inductive More (r : Option Value) (K : Value -> Prop) : Prop
 | intro (v : Value) (e : r = some v) (h : K v)
noncomputable def Steps (C : Cx) (A : Around) (target : Expr) (it : Value) (Pb : Pool) : List AV -> St -> Prop
 | [], es => ∀ σ P s E, PLe Pb P -> Sat C P (es ++ σ) s -> wpAny (model C.prog C.w) A (pyNext it) (NoMore C P σ) E s
 | d :: ds, es => ∀ σ P s E, PLe Pb P -> Sat C P (es ++ σ) s -> wpAny (model C.prog C.w) A (pyNext it) (fun r s₁ => More r fun v =>
     wpAny (model C.prog C.w) A (letOwnedTupleGo target it v) (fun _ => Got C P σ d (Steps C A target it Pb ds) v) E s₁) E s
noncomputable def SelfIter (C : Cx) (A : Around) (it : Value) (Pb : Pool) (es : St) : Prop := ∀ σ P s E (K : Value -> Shared -> Prop), PLe Pb P -> Sat C P (es ++ σ) s -> K it s -> wpAny (model C.prog C.w) A (pyIter it) K E s
inductive MkOut (C : Cx) (A : Around) (target : Expr) (P : Pool) (ds : List AV) (σ : St) (it : Value) (s₁ : Shared) : Prop
 | intro (P' : Pool) (es : St) (l : PLe P P') (S : Sat C P' (es ++ σ) s₁) (st : Steps C A target it P' ds es) (sf : SelfIter C A it P' es)
noncomputable def MkIter (C : Cx) (A : Around) (target : Expr) (d : AV) (ds : List AV) (σ : St) : Prop :=
 ∀ P s v E, Sat C P σ s -> VR P v d -> wpAny (model C.prog C.w) A (pyIter v) (MkOut C A target P ds σ) E s
inductive IterOut (C : Cx) (A : Around) (target : Expr) (P : Pool) (Q : List AV -> St -> Prop) (it : Value) (s₂ : Shared) : Prop
 | intro (P' : Pool) (es : St) (ds : List AV) (σ' : St) (l : PLe P P') (S : Sat C P' (es ++ σ') s₂) (st : Steps C A target it P' ds es) (sf : SelfIter C A it P' es) (q : Q ds σ')
noncomputable def EvIter (C : Cx) (A : Around) (env : Env) (target iter : Expr) (σ : St) (Q : List AV -> St -> Prop) : Prop :=
 ∀ P s, Sat C P σ s -> wpAny (model C.prog C.w) A (eval iter env) (fun x s₁ => wpAny (model C.prog C.w) A (pyIter x) (IterOut C A target P Q) (fun _ _ => False) s₁) (fun _ _ => False) s
section
variable {C : Cx} {A : Around} {σ σ' σ'' : St} {env : Env} {pos pos' : Pos}
inductive IterK (C : Cx) (A : Around) (target : Expr) (Q : List AV -> St -> Prop) (d : AV) (σ₁ : St) : Prop
 | intro (ds : List AV) (mk : MkIter C A target d ds σ₁) (q : Q ds σ₁)
theorem evIter_of {target iter : Expr} {Q : List AV -> St -> Prop} (h : Ev C A (eval iter env) σ (IterK C A target Q)) : EvIter C A env target iter σ Q := by
 intro P s S; refine h.run S fun P₁ v d σ₁ s₁ l₁ S₁ r₁ hzz => ?_; obtain ⟨ds, mk, q⟩ := hzz; exact wpAny_mono (mk P₁ s₁ v _ S₁ r₁) (fun it s₂ hzz => by obtain ⟨P₂, es, l₂, S₂, st, sf⟩ := hzz; exact ⟨P₂, es, ds, σ₁, l₁.trans l₂, S₂, st, sf, q⟩) fun _ _ x => x
theorem swap_perm (es g τ : St) : (g ++ (es ++ τ)).Perm (es ++ (g ++ τ)) := by
 rw [<- append_assoc, <- append_assoc]; exact List.perm_append_comm.append_right _
@[reducible] noncomputable def WhileK (Inv : Nat -> St -> Prop) (n : Nat) (Q : AFlow -> St -> Prop) (f : AFlow) (σ₂ : St) : Prop := match f with
       | .next | .cont => ∃ m, m < n /\ Inv m σ₂
       | .brk => Q .next σ₂
       | .ret d => Q (.ret d) σ₂
theorem ex_while {test : Expr} {body orelse : List PySem.Stmt} {Q : AFlow -> St -> Prop} (Inv : Nat -> St -> Prop) (n : Nat) (h0 : Inv n σ)
   (turn : ∀ n σ, Inv n σ -> ∀ K : AFlow -> St -> Prop, (∀ f σ₂, WhileK Inv n Q f σ₂ -> K f σ₂) -> Eb C A (isTrue test env (eval test env)) σ fun b σ₁ => if b then Ef C A (execs body env) σ₁ K else Ef C A (execs orelse env) σ₁ Q) : Ef C A (exec (.While test body orelse pos) env) σ Q := by
 intro P s S; refine wpAny_While (codeAny_whileLoop (fun n s => ∃ P' σ', PLe P P' /\ Sat C P' σ' s /\ Inv n σ') ?_ n ⟨P, σ, PLe.refl _, S, h0⟩); rintro n s₁ ⟨P₁, σ₁, l₁, S₁, hi⟩; refine (turn n σ₁ hi _ fun _ _ h => h).run S₁ fun P₂ b b' σ₂ s₂ l₂ S₂ r₂ q₂ => ?_; cases r₂
 cases b with
 | true =>
   simp only [if_true] at q₂ ⊢; refine q₂.run S₂ fun P₃ fl af σ₃ s₃ l₃ S₃ r₃ q₃ => ?_; have l := (l₁.trans l₂).trans l₃
   cases r₃ with
   | next => obtain ⟨m, hm, hi⟩ := q₃; exact ⟨m, hm, P₃, σ₃, l, S₃, hi⟩
   | cont => obtain ⟨m, hm, hi⟩ := q₃; exact ⟨m, hm, P₃, σ₃, l, S₃, hi⟩
   | brk => exact ⟨P₃, _, σ₃, l, S₃, .next, q₃⟩
   | ret r => exact ⟨P₃, _, σ₃, l, S₃, .ret r, q₃⟩
 | false =>
   simp only [Bool.false_eq_true, if_false] at q₂ ⊢; exact q₂.run S₂ fun P₃ fl af σ₃ s₃ l₃ S₃ r₃ q₃ => ⟨P₃, _, σ₃, (l₁.trans l₂).trans l₃, S₃, r₃, q₃⟩
@[reducible] noncomputable def ForI {X : Type} (Inv : List AV -> X -> Prop) (Qb : X -> Prop) (Qr : AV -> X -> Prop) (rest : List AV) (f : AFlow) (x : X) : Prop := match f with
 | .next | .cont => Inv rest x
 | .brk => Qb x
 | .ret e => Qr e x
inductive ForK {X : Type} (G : X -> St) (Inv : List AV -> X -> Prop) (Qb : X -> Prop) (Qr : AV -> X -> Prop) (rest : List AV) (τ' : St) (f : AFlow) (σ₂ : St) : Prop
 | intro (x : X) (h1 : (G x ++ τ').Sublist σ₂) (h2 : ForI Inv Qb Qr rest f x)
inductive ForG {X : Type} (G : X -> St) (Inv : List AV -> X -> Prop) (τ : St) (ds : List AV) (σ₁ : St) : Prop
 | intro (x : X) (e : σ₁ = G x ++ τ) (h : Inv ds x)
inductive ForSt {X : Type} (C : Cx) (A : Around) (G : X -> St) (Inv : List AV -> X -> Prop) (τ : St) (target : Expr) (it : Value) (P P₂ : Pool) (n : Nat) (s : Shared) : Prop
 | intro (ds : List AV) (x : X) (es : St) (P' : Pool) (e : n = ds.length) (l : PLe P P') (b : PLe P₂ P') (S : Sat C P' (G x ++ (es ++ τ)) s) (st : Steps C A target it P₂ ds es) (hi : Inv ds x)
theorem ex_forS {X : Type} {target iter : Expr} {body : List PySem.Stmt} {Q : AFlow -> St -> Prop} (G : X -> St) (Inv : List AV -> X -> Prop) (Qb : X -> Prop) (Qr : AV -> X -> Prop) {τ : St}
   (hiter : EvIter C A env target iter σ (ForG G Inv τ))
   (turn : ∀ d rest x τ', (∀ q ∈ τ, q ∈ τ') -> Inv (d :: rest) x -> ∀ K : AFlow -> St -> Prop, (∀ f σ₂, ForK G Inv Qb Qr rest τ' f σ₂ -> K f σ₂) -> Op1 RU C A (assign target env) d (G x ++ τ') fun _ σ₁ => Ef C A (execs body env) σ₁ K)
   (done : ∀ x, Inv [] x \/ Qb x -> Q .next (G x ++ τ)) (ret : ∀ d x, Qr d x -> Q (.ret d) (G x ++ τ)) (hs : ∀ x, foldedSetIterable iter env x = pure x) : Ef C A (exec (.For target iter body [] pos) env) σ Q := by
 intro P s S; refine wpAny_For (wpAny_mono (hiter P s S) (fun _ s₁ h₁ => wpAny_mono h₁ (fun it s₂ hzz => ?_) fun _ _ x => x.elim) fun _ _ x => x.elim) hs; refine byK _ fun K k => ?_; obtain ⟨P₂, es, ds, σ₁, l₂, S₂, st, _, x, e, hi⟩ := hzz; subst e; refine k ?_; clear k K; have S₂ := S₂.perm (swap_perm es (G x) τ); refine codeAny_forLoop_any (ForSt C A G Inv τ target it P P₂) ?_ _ ⟨ds, x, es, P₂, rfl, l₂, PLe.refl _, S₂, st, hi⟩; intro n s₃ hzz; obtain ⟨ds, x, es, P₃, e, l₃, b₃, S₃, st, hi⟩ := hzz; subst e; have S₃' := S₃.perm ((swap_perm es (G x) τ).symm)
 cases ds with
 | nil =>
   refine wpAny_mono (st _ _ _ _ b₃ S₃') (fun r s₄ hzz => ?_) fun _ _ x => x; obtain ⟨e, P₄, es', l₄, S₄⟩ := hzz; subst e
   refine wpAny_execs_nil ⟨P₄, .next, G x ++ τ, l₃.trans l₄, S₄.sub (List.sublist_append_right _ _), .next, done x (.inl hi)⟩
 | cons d rest =>
   refine wpAny_mono (st _ _ _ _ b₃ S₃') (fun r s₄ hzz => ?_) fun _ _ x => x; obtain ⟨v, e, h4⟩ := hzz; subst e; refine wpAny_mono h4 (fun _ s₅ hzz => ?_) fun _ _ x => x; obtain ⟨P₅, es', l₅, S₅, r₅, st'⟩ := hzz; have S₅ := S₅.perm (swap_perm es' (G x) τ); refine wpAny_mono (turn d rest x (es' ++ τ) (fun q hq => mem_append_right _ hq) hi _ (fun _ _ h => h) P₅ s₅ v S₅ r₅) (fun _ s₆ hzz => ?_) fun _ _ x => x.elim; obtain ⟨P₆, _, σ₆, l₆, S₆, _, q₆⟩ := hzz; refine q₆.run S₆ fun P₇ fl af σ₇ s₇ l₇ S₇ r₇ hzz => ?_; obtain ⟨x', hsub, q₇⟩ := hzz; have l := ((l₃.trans l₅).trans l₆).trans l₇; have b₇ := ((b₃.trans l₅).trans l₆).trans l₇; have S₇ := S₇.sub hsub; have out := (S₇.perm ((swap_perm es' (G x') τ).symm)).sub (List.sublist_append_right es' _)
   cases r₇ with
   | next => exact ⟨rest.length, by simp, rest, x', es', P₇, rfl, l, b₇, S₇, st', q₇⟩
   | cont => exact ⟨rest.length, by simp, rest, x', es', P₇, rfl, l, b₇, S₇, st', q₇⟩
   | brk => exact ⟨P₇, .next, _, l, out, .next, done x' (.inr q₇)⟩
   | ret r => exact ⟨P₇, _, _, l, out, .ret r, ret _ x' q₇⟩
theorem ex_for {X : Type} {target iter : Expr} {body : List PySem.Stmt} {Q : AFlow -> St -> Prop} (G : X -> St) (Inv : List AV -> X -> Prop) (Qb : X -> Prop) (Qr : AV -> X -> Prop) {τ : St}
   (hiter : EvIter C A env target iter σ (ForG G Inv τ))
   (turn : ∀ d rest x τ', Inv (d :: rest) x -> ∀ K : AFlow -> St -> Prop, (∀ f σ₂, ForK G Inv Qb Qr rest τ' f σ₂ -> K f σ₂) -> Op1 RU C A (assign target env) d (G x ++ τ') fun _ σ₁ => Ef C A (execs body env) σ₁ K)
   (done : ∀ x, Inv [] x \/ Qb x -> Q .next (G x ++ τ)) (ret : ∀ d x, Qr d x -> Q (.ret d) (G x ++ τ)) (hs : ∀ x, foldedSetIterable iter env x = pure x) : Ef C A (exec (.For target iter body [] pos) env) σ Q :=
 ex_forS G Inv Qb Qr hiter (fun d rest x τ' _ h => turn d rest x τ' h) done ret hs
noncomputable def lst {α : Type} (f : Nat -> α -> AV) : Nat -> List α -> List AV
 | _, [] => []
 | i, a :: l => f i a :: lst f (i + 1) l
theorem lst_map {α : Type} (f : α -> AV) : ∀ (i : Nat) (l : List α), l.map f = lst (fun _ => f) i l
 | _, [] => rfl
 | i, a :: l => congrArg _ (lst_map f (i + 1) l)
inductive Part (I : St -> St -> Prop) (τ σ : St) : Prop
 | intro (g : St) (e : σ = g ++ τ) (h : ∀ τ', I τ' (g ++ τ'))
noncomputable def Par (I : St -> St -> Prop) : Prop := ∀ τ σ, I τ σ -> Part I τ σ
theorem Par.no : Par fun _ _ => False := fun _ _ h => h.elim
@[reducible] noncomputable def ForPI (N : St -> St -> Prop) (B : St -> St -> Prop) (R : AV -> St -> St -> Prop) (τ' : St) (f : AFlow) (σ₂ : St) : Prop := match f with
 | .next | .cont => N τ' σ₂
 | .brk => B τ' σ₂
 | .ret e => R e τ' σ₂
inductive ForP (N : St -> St -> Prop) (B : St -> St -> Prop) (R : AV -> St -> St -> Prop) (τ' : St) (f : AFlow) (σ₂ : St) : Prop
 | intro (σ₃ : St) (h1 : σ₃.Sublist σ₂) (h2 : ForPI N B R τ' f σ₃)
inductive ForPS {α : Type} (l : List α) (f : Nat -> α -> AV) (I : List α -> St -> St -> Prop) (rest : List AV) (g : St) : Prop
 | intro (pre post : List α) (hl : l = pre ++ post) (hr : rest = lst f pre.length post) (hg : ∀ τ', I pre τ' (g ++ τ'))
theorem ex_forP {α : Type} {target iter : Expr} {body : List PySem.Stmt} {Q : AFlow -> St -> Prop} (l : List α) (f : Nat -> α -> AV) (I : List α -> St -> St -> Prop) (B : St -> St -> Prop) (R : AV -> St -> St -> Prop) {τ : St}
   (hI : ∀ pre, Par (I pre)) (hB : Par B) (hR : ∀ d, Par (R d))
   (hiter : EvIter C A env target iter σ fun ds σ₁ => ds = lst f 0 l /\ I [] τ σ₁)
   (turn : ∀ pre a post σ₁ τ', (∀ q ∈ τ, q ∈ τ') -> l = pre ++ a :: post -> I pre τ' σ₁ -> ∀ K : AFlow -> St -> Prop, (∀ f σ₂, ForP (I (pre ++ [a])) B R τ' f σ₂ -> K f σ₂) -> Op1 RU C A (assign target env) (f pre.length a) σ₁ fun _ σ₁ => Ef C A (execs body env) σ₁ K)
   (done : ∀ σ₁, I l τ σ₁ \/ B τ σ₁ -> Q .next σ₁) (ret : ∀ d σ₁, R d τ σ₁ -> Q (.ret d) σ₁) (hs : ∀ x, foldedSetIterable iter env x = pure x) : Ef C A (exec (.For target iter body [] pos) env) σ Q := by
 refine ex_forS (X := St) (τ := τ) (fun g => g) (ForPS l f I) (fun g => ∀ τ', B τ' (g ++ τ')) (fun d g => ∀ τ', R d τ' (g ++ τ')) ?_ ?_ ?_ (fun d g h => ret d _ (h τ)) hs
 . refine fun P s S => wpAny_mono (hiter P s S) (fun x s₁ h => wpAny_mono h (fun it s₂ hzz => ?_) fun _ _ x => x) fun _ _ x => x; obtain ⟨P', es, ds, σ', h1, h2, h3, h4, h5, h6⟩ := hzz; obtain ⟨g, e, hg⟩ := hI [] _ _ h6; exact ⟨P', es, ds, _, h1, h2, h3, h4, g, e, [], l, rfl, h5, hg⟩
 . rintro d rest g τ' hτ ⟨pre, post, hl, hr, hg⟩ K hK
   cases post with
   | nil => cases hr
   | cons a post =>
     cases hr; refine turn pre a post _ τ' hτ hl (hg τ') K fun fl σ₂ h => ?_; obtain ⟨σ₃, h1, h2⟩ := h
     have hn : I (pre ++ [a]) τ' σ₃ -> ForG (fun g => g) (ForPS l f I) τ' (lst f (pre.length + 1) post) σ₃ := fun h => by
       obtain ⟨g', e, hg'⟩ := hI _ _ _ h
       exact ⟨g', e, pre ++ [a], post, hl.trans (List.append_cons ..), congrArg (lst f · post) (length_append (as := pre) (bs := [a])).symm, hg'⟩
     cases fl with
     | next => obtain ⟨g', e, h⟩ := hn h2; exact hK _ _ ⟨g', e ▸ h1, h⟩
     | cont => obtain ⟨g', e, h⟩ := hn h2; exact hK _ _ ⟨g', e ▸ h1, h⟩
     | brk => obtain ⟨g', e, h⟩ := hB _ _ h2; exact hK _ _ ⟨g', e ▸ h1, h⟩
     | ret e => obtain ⟨g', e, h⟩ := hR _ _ _ h2; exact hK _ _ ⟨g', e ▸ h1, h⟩
 . rintro g (⟨pre, post, hl, hr, hg⟩ | h)
   . cases post with
     | nil => rw [append_nil] at hl; subst hl; exact done _ (.inl (hg τ))
     | cons a post => cases hr
   . exact done _ (.inr (h τ))
theorem range_split {m k : Nat} {pre post : List Nat} (h : List.range m = pre ++ k :: post) : pre = List.range k /\ k < m := by
 have hl := congrArg List.length h; rw [length_range, length_append, length_cons] at hl
 have hk : pre.length = k := by
   have h1 : (List.range m)[pre.length]? = some k := by rw [h, getElem?_append_right (le_refl _), sub_self]; rfl
   rw [getElem?_range (by omega)] at h1; injection h1
 have h2 := congrArg (take k) h; rw [List.take_range, <- hk, List.take_left, hk] at h2; exact ⟨by rw [<- h2, min_eq_left (le_trans (le_of_eq hk.symm) (hl ▸ le_add_right _ _))], by rw [hl, <- hk]; exact Nat.lt_add_of_pos_right (succ_pos _)⟩
end
end
section
noncomputable def ObjsAt (h : Heap) (wr : List Addr) (es : St) : Prop := ∃ f : Addr -> Obj, es = wr.map (fun b => (b, AEnt.obj (f b))) /\ ∀ b ∈ wr, h.get? b = some (f b)
theorem ObjsAt.of_ex {h : Heap} : ∀ {wr : List Addr}, (∀ b ∈ wr, ∃ o, h.get? b = some o) -> ∃ es, ObjsAt h wr es := fun {wr} hx => by
 classical
 exact ⟨_, fun b => if hb : b ∈ wr then (hx b hb).choose else default, rfl, fun b hb => by simp only [hb, dif_pos]; exact (hx b hb).choose_spec⟩
theorem ObjsAt.keys {h : Heap} {wr : List Addr} {es : St} (x : ObjsAt h wr es) : es.map (·.1) = wr := by
 obtain ⟨f, rfl, _⟩ := x; rw [map_map]; show wr.map (fun b => b) = wr; simp
section
variable {C : Cx} {A : Around} {σ : St}
theorem Sat.turn {P : Pool} {es es' : St} {s : Shared} (S : Sat C P (es ++ σ) s) {h' : Heap} (tk : Nat) (hkeys : es'.map (·.1) = es.map (·.1)) (hk : ∀ b o, b ∉ es.map (·.1) -> s.heap.get? b = some o -> h'.get? b = some o)
   (he : ∀ p ∈ es', EntAt P h' p.1 p.2) : Sat C P (es' ++ σ) { s with heap := h', toks := tk } := by
 have hoff : ∀ a ∈ es.map (·.1), P a = none := fun a ha => by
   obtain ⟨p, hp, rfl⟩ := List.mem_map.mp ha; exact S.off p (mem_append_left _ hp)
 have hnd := S.nd; rw [map_append] at hnd; refine ⟨S.base, fun a o e => hk a o (fun ha => by rw [hoff a ha] at e; cases e) (S.pool a o e), fun p hp => ?_, fun p hp => ?_, by rw [map_append, hkeys]; exact hnd, S.os, S.gens⟩
 . rcases List.mem_append.mp hp with hp | hp
   . exact hoff _ (hkeys ▸ mem_map_of_mem (f := (·.1)) hp)
   . exact S.off p (mem_append_right _ hp)
 . rcases List.mem_append.mp hp with hp | hp
   . exact he p hp
   . refine (S.ents p (mem_append_right _ hp)).keep fun o e => hk _ _ (fun ha => ?_) e
     exact (List.nodup_append.mp hnd).2.2 _ ha _ (mem_map_of_mem (f := (·.1)) hp) rfl
theorem Sat.turnOff {P : Pool} {es : St} {s : Shared} (S : Sat C P (es ++ σ) s) {h' : Heap} (tk : Nat) (hk : ∀ b o, b ∉ es.map (·.1) -> s.heap.get? b = some o -> h'.get? b = some o) : Sat C P σ { s with heap := h', toks := tk } := by
 have hoff : ∀ a ∈ es.map (·.1), P a = none := fun a ha => by
   obtain ⟨p, hp, rfl⟩ := List.mem_map.mp ha; exact S.off p (mem_append_left _ hp)
 have hnd := S.nd; rw [map_append] at hnd; refine ⟨S.base, fun a o e => hk a o (fun ha => by rw [hoff a ha] at e; cases e) (S.pool a o e), fun p hp => S.off p (mem_append_right _ hp), fun p hp => ?_, (List.nodup_append.mp hnd).2.1, S.os, S.gens⟩; refine (S.ents p (mem_append_right _ hp)).keep fun o e => hk _ _ (fun ha => ?_) e
 exact (List.nodup_append.mp hnd).2.2 _ ha _ (mem_map_of_mem (f := (·.1)) hp) rfl
theorem ObjsAt.sat {P : Pool} {es : St} {wr : List Addr} {h₀ : Heap} {s : Shared} (x : ObjsAt h₀ wr es) (S : Sat C P (es ++ σ) s) : ∀ b ∈ wr, ∀ o, h₀.get? b = some o -> s.heap.get? b = some o := by
 obtain ⟨f, rfl, hf⟩ := x; intro b hb o e; rw [hf b hb] at e; cases e; exact S.ents (b, .obj (f b)) (mem_append_left _ (mem_map_of_mem (f := fun b => (b, AEnt.obj (f b))) hb))
theorem ObjsAt.ents {P : Pool} {h : Heap} {wr : List Addr} {es : St} (x : ObjsAt h wr es) : ∀ p ∈ es, EntAt P h p.1 p.2 := by
 obtain ⟨f, rfl, hf⟩ := x; intro p hp; obtain ⟨b, hb, rfl⟩ := List.mem_map.mp hp; exact hf b hb
variable {I : Addr} {fp wr : List Addr} {n : Nat} {Pt : Nat -> Array Value -> Prop} {Pv : Nat -> Value -> Prop} {St' : Nat -> Heap -> Prop} {Mid : Nat -> Addr -> Heap -> Prop} {Pb : Pool}
theorem steps_of_walksT (W : WalksT C.prog C.w A I fp wr n Pt St' Mid) (hex : ∀ i h, St' i h -> ∀ b ∈ wr, ∃ o, h.get? b = some o) (hpool : ∀ b ∈ fp, b ∉ wr -> ∃ o, Pb b = some o)
   (elts : List Expr) (k : Nat) (pos : Pos) (ds : List AV) (hlen : ds.length = n) (hval : ∀ j vals, j < n -> Pt j vals -> ∀ P, PLe Pb P -> ∃ es, ds[j]? = some (.tuple es) /\ VRs P vals.toList es) :
   ∀ m i, n - i = m -> ∀ h₀ es, St' i h₀ -> ObjsAt h₀ wr es -> (∀ a o, Pb a = some o -> h₀.get? a = some o) -> i <= n -> Steps C A (.Tuple elts k pos) (.ref I) Pb (ds.drop i) es := by
 have hstay : ∀ (σ : St) i h₀ (es : St) P s, St' i h₀ -> ObjsAt h₀ wr es -> (∀ a o, Pb a = some o -> h₀.get? a = some o) -> PLe Pb P -> Sat C P (es ++ σ) s -> St' i s.heap := by
   intro σ i h₀ es P s hst hob hb hl S; refine W.frame i h₀ _ hst fun b hbf o e => ?_; by_cases hw : b ∈ wr
   . exact hob.sat S b hw o e
   . obtain ⟨o', e'⟩ := hpool b hbf hw; have := hb _ _ e'; rw [this] at e; cases e; exact S.pool _ _ (hl _ _ e')
 intro m
 induction m with
 | zero =>
   intro i hm h₀ es hst hob hb hi; have : i = n := le_antisymm hi (Nat.le_of_sub_eq_zero hm); subst this; rw [<- hlen, List.drop_length]; intro σ P s E hl S; refine W.done s _ _ (hstay σ i h₀ es P s hst hob hb hl S) fun h' tk hk => ⟨rfl, P, [], PLe.refl _, ?_⟩; exact S.turnOff tk fun b o hb' e => hk b o (by rw [hob.keys] at hb'; exact hb') e
 | succ m ih =>
   intro i hm h₀ es hst hob hb hi; have hin : i < n := Nat.lt_of_sub_eq_succ hm; have hid : i < ds.length := hlen ▸ hin; rw [drop_eq_getElem_cons hid]; intro σ P s E hl S; refine W.item i s _ _ hin (hstay σ i h₀ es P s hst hob hb hl S) fun T vals h' tk hP hT ht hmid hk => ⟨_, rfl, ?_⟩; refine W.go elts k pos i T { s with heap := h', toks := tk } _ _ hmid fun h'' hst'' hk'' => ?_; have hTw := W.apart i T h' hmid; have hk2 : ∀ b o, b ∉ wr -> s.heap.get? b = some o -> h''.get? b = some o := fun b o hbw e => hk'' b o hbw (hk b o hbw e); obtain ⟨es', hob'⟩ := ObjsAt.of_ex (hex _ _ hst''); have S' : Sat C P (es' ++ σ) { s with heap := h'', toks := tk } := S.turn tk (by rw [hob'.keys, hob.keys]) (fun b o hb' e => hk2 b o (by rw [hob.keys] at hb'; exact hb') e) hob'.ents; obtain ⟨oT, e1, e2, nT, e3⟩ := ht; have e1' := hk'' T oT hTw e1; have hTn : s.heap.get? T = none := Heap.get?_none_of_le hT; obtain ⟨g1, g2⟩ := S.none_of_fresh hTn
   have g2' : T ∉ (es' ++ σ).map (·.1) := by
     rw [map_append, hob'.keys, <- hob.keys, <- map_append]; exact g2
   have lT := addP_le oT g1; obtain ⟨vs, hds, hvs⟩ := hval i vals hin hP _ (hl.trans lT); rw [getElem?_eq_getElem hid] at hds; refine ⟨addP P T oT, es', lT, S'.frozen g1 g2' e1', ?_, ?_⟩
   . rw [Option.some.inj hds]; exact .tuple (vs := vals.toList) (addP_self _ _ _) e2 (by rw [e3]) hvs
   . refine ih (i + 1) (Nat.succ.inj ((sub_s hin).symm.trans hm)) h'' es' hst'' hob' (fun a o e => ?_) hin; have e' := hl _ _ e; refine hk2 a o (fun haw => ?_) (S.pool _ _ e')
     have : a ∈ es.map (·.1) := by rw [hob.keys]; exact haw
     obtain ⟨p, hp, rfl⟩ := List.mem_map.mp this; rw [S.off p (mem_append_left _ hp)] at e'; cases e'
theorem steps_of_walks (W : Walks C.prog C.w A I fp wr n Pv St') (hex : ∀ i h, St' i h -> ∀ b ∈ wr, ∃ o, h.get? b = some o) (hpool : ∀ b ∈ fp, b ∉ wr -> ∃ o, Pb b = some o)
   (target : Expr) (hgo : ∀ i (s : Shared) v (Q : Unit -> Shared -> Prop) E, St' i s.heap -> Q () s -> wpAny (model C.prog C.w) A (letOwnedTupleGo target (.ref I) v) Q E s)
   (ds : List AV) (hlen : ds.length = n) (hval : ∀ j v, j < n -> Pv j v -> ∀ P, PLe Pb P -> ∃ d, ds[j]? = some d /\ VR P v d) :
   ∀ m i, n - i = m -> ∀ h₀ es, St' i h₀ -> ObjsAt h₀ wr es -> (∀ a o, Pb a = some o -> h₀.get? a = some o) -> i <= n -> Steps C A target (.ref I) Pb (ds.drop i) es := by
 have hstay : ∀ (σ : St) i h₀ (es : St) P s, St' i h₀ -> ObjsAt h₀ wr es -> (∀ a o, Pb a = some o -> h₀.get? a = some o) -> PLe Pb P -> Sat C P (es ++ σ) s -> St' i s.heap := by
   intro σ i h₀ es P s hst hob hb hl S; refine W.frame i h₀ _ hst fun b hbf o e => ?_; by_cases hw : b ∈ wr
   . exact hob.sat S b hw o e
   . obtain ⟨o', e'⟩ := hpool b hbf hw; have := hb _ _ e'; rw [this] at e; cases e; exact S.pool _ _ (hl _ _ e')
 intro m
 induction m with
 | zero =>
   intro i hm h₀ es hst hob hb hi; have : i = n := le_antisymm hi (Nat.le_of_sub_eq_zero hm); subst this; rw [<- hlen, List.drop_length]; intro σ P s E hl S; refine W.done s _ _ (hstay σ i h₀ es P s hst hob hb hl S) fun h' tk hk => ⟨rfl, P, [], PLe.refl _, ?_⟩; exact S.turnOff tk fun b o hb' e => hk b o (by rw [hob.keys] at hb'; exact hb') e
 | succ m ih =>
   intro i hm h₀ es hst hob hb hi; have hin : i < n := Nat.lt_of_sub_eq_succ hm; have hid : i < ds.length := hlen ▸ hin; rw [drop_eq_getElem_cons hid]; intro σ P s E hl S; refine W.item i s _ _ hin (hstay σ i h₀ es P s hst hob hb hl S) fun v h' tk hP hst' hk => ⟨_, rfl, hgo (i + 1) _ v _ _ hst' ?_⟩; obtain ⟨es', hob'⟩ := ObjsAt.of_ex (hex _ _ hst'); have S' : Sat C P (es' ++ σ) { s with heap := h', toks := tk } := S.turn tk (by rw [hob'.keys, hob.keys]) (fun b o hb' e => hk b o (by rw [hob.keys] at hb'; exact hb') e) hob'.ents; obtain ⟨d, hds, hv⟩ := hval i v hin hP P hl; rw [getElem?_eq_getElem hid] at hds; refine ⟨P, es', PLe.refl _, S', Option.some.inj hds ▸ hv, ?_⟩; refine ih (i + 1) (Nat.succ.inj ((sub_s hin).symm.trans hm)) h' es' hst' hob' (fun a o e => ?_) hin; have e' := hl _ _ e; refine hk a o (fun haw => ?_) (S.pool _ _ e')
   have : a ∈ es.map (·.1) := by rw [hob.keys]; exact haw
   obtain ⟨p, hp, rfl⟩ := List.mem_map.mp this; rw [S.off p (mem_append_left _ hp)] at e'; cases e'
end
end
section
section
variable {C : Cx} {A : Around} {σ : St} {env : Env} {pos : Pos}
inductive Tgt : Expr -> Prop
 | name (x : Str) (p : Pos) : Tgt (.Name x p)
 | tuple (es : List Expr) (k : Nat) (p : Pos) : Tgt (.Tuple es k p)
theorem go_plain {target : Expr} (ht : Tgt target) {cls : String} (hc : ["enumerate", "zip", "dict_itemiterator", "dict_reverseitemiterator", "odict_iterator", "itertools.zip_longest", "itertools.pairwise"].contains cls = false)
   {I : Addr} {o : Obj} {s : Shared} {v : Value} {Q : Unit -> Shared -> Prop} {E : Value -> Shared -> Prop} (ho : s.heap.get? I = some o) (hcls : o.cls = .type cls) (hQ : Q () s) : wpAny (model C.prog C.w) A (letOwnedTupleGo target (.ref I) v) Q E s := by
 cases ht with
 | name x p => exact wpAny_pure hQ
 | tuple es k p =>
   cases v with
   | ref T =>
     unfold letOwnedTupleGo; refine wpAny_bind (wpAny_load ho ?_); rw [hcls]
     cases hd : o.data with
     | fields vs =>
       show wpAny _ A (if (["enumerate", "zip", "dict_itemiterator", "dict_reverseitemiterator", "odict_iterator", "itertools.zip_longest", "itertools.pairwise"].contains cls && vs[0]? == some (rawInt T)) = true then _ else _) Q E s
       rw [if_neg (by rw [hc, Bool.false_and]; exact Bool.false_ne_true)]; exact wpAny_pure hQ
     | _ => exact wpAny_pure hQ
   | _ => exact wpAny_pure hQ
theorem fresh_entries {P : Pool} {s : Shared} {h' : Heap} {wr : List Addr} {es : St} (S : Sat C P σ s) (tk : Nat) (hkeep : ∀ b o, s.heap.get? b = some o -> h'.get? b = some o) (hnd : wr.Nodup) (hnew : ∀ b ∈ wr, s.heap.get? b = none) (hob : ObjsAt h' wr es) :
   Sat C P (es ++ σ) { s with heap := h', toks := tk } :=
 S.news (h' := h') tk hkeep es (by rw [hob.keys]; exact hnd) fun p hp => ⟨by
   have : p.1 ∈ es.map (·.1) := mem_map_of_mem (f := (·.1)) hp
   rw [hob.keys] at this; exact hnew _ this, hob.ents p hp⟩
theorem made_of_walks {P : Pool} {s : Shared} {h' : Heap} {I : Addr} {fp wr : List Addr} {n : Nat} {Pv : Nat -> Value -> Prop} {St' : Nat -> Heap -> Prop} (S : Sat C P σ s) (tk : Nat) (hkeep : ∀ b o, s.heap.get? b = some o -> h'.get? b = some o)
   (hnd : wr.Nodup) (hnew : ∀ b ∈ wr, s.heap.get? b = none) (W : Walks C.prog C.w A I fp wr n Pv St') (hst : St' 0 h') (hex : ∀ i h, St' i h -> ∀ b ∈ wr, ∃ o, h.get? b = some o) (hpool : ∀ b ∈ fp, b ∉ wr -> ∃ o, P b = some o)
   (target : Expr) (hgo : ∀ i (s : Shared) v (Q : Unit -> Shared -> Prop) E, St' i s.heap -> Q () s -> wpAny (model C.prog C.w) A (letOwnedTupleGo target (.ref I) v) Q E s)
   (ds : List AV) (hlen : ds.length = n) (hval : ∀ j v, j < n -> Pv j v -> ∀ P', PLe P P' -> ∃ d, ds[j]? = some d /\ VR P' v d) : MkOut C A target P ds σ (.ref I) { s with heap := h', toks := tk } := by
 obtain ⟨es, hob⟩ := ObjsAt.of_ex (hex 0 _ hst); refine ⟨P, es, PLe.refl _, fresh_entries S tk hkeep hnd hnew hob, ?_, ?_⟩
 . have := steps_of_walks W hex hpool target hgo ds hlen hval _ 0 rfl _ es hst hob (fun a o e => hkeep _ _ (S.pool _ _ e)) (zero_le _); simpa using this
 . intro σ' P' s' E' K hl' S'' hK; refine W.self 0 s' _ _ (W.frame 0 _ _ hst fun b hb o e => ?_) hK; by_cases hw : b ∈ wr
   . exact hob.sat S'' b hw o e
   . obtain ⟨o', e'⟩ := hpool b hb hw; rw [hkeep _ _ (S.pool _ _ e')] at e; cases e; exact S''.pool _ _ (hl' _ _ e')
theorem made_of_walksT {P : Pool} {s : Shared} {h' : Heap} {I : Addr} {fp wr : List Addr} {n : Nat} {Pt : Nat -> Array Value -> Prop} {St' : Nat -> Heap -> Prop} {Mid : Nat -> Addr -> Heap -> Prop} (S : Sat C P σ s) (tk : Nat) (hkeep : ∀ b o, s.heap.get? b = some o -> h'.get? b = some o)
   (hnd : wr.Nodup) (hnew : ∀ b ∈ wr, s.heap.get? b = none) (W : WalksT C.prog C.w A I fp wr n Pt St' Mid) (hst : St' 0 h') (hex : ∀ i h, St' i h -> ∀ b ∈ wr, ∃ o, h.get? b = some o) (hpool : ∀ b ∈ fp, b ∉ wr -> ∃ o, P b = some o)
   (elts : List Expr) (k : Nat) (pos : Pos)
   (ds : List AV) (hlen : ds.length = n) (hval : ∀ j vals, j < n -> Pt j vals -> ∀ P', PLe P P' -> ∃ es, ds[j]? = some (.tuple es) /\ VRs P' vals.toList es) : MkOut C A (.Tuple elts k pos) P ds σ (.ref I) { s with heap := h', toks := tk } := by
 obtain ⟨es, hob⟩ := ObjsAt.of_ex (hex 0 _ hst); refine ⟨P, es, PLe.refl _, fresh_entries S tk hkeep hnd hnew hob, ?_, ?_⟩
 . have := steps_of_walksT W hex hpool elts k pos ds hlen hval _ 0 rfl _ es hst hob (fun a o e => hkeep _ _ (S.pool _ _ e)) (zero_le _); simpa using this
 . intro σ' P' s' E' K hl' S'' hK; refine W.self 0 s' _ _ (W.frame 0 _ _ hst fun b hb o e => ?_) hK; by_cases hw : b ∈ wr
   . exact hob.sat S'' b hw o e
   . obtain ⟨o', e'⟩ := hpool b hb hw; rw [hkeep _ _ (S.pool _ _ e')] at e; cases e; exact S''.pool _ _ (hl' _ _ e')
inductive LPool (P : Pool) (v : Value) (ds : List AV) : Prop
 | intro (l : Addr) (o : Obj) (vs : List Value) (n : Nat) (e : v = .ref l) (h : P l = some o) (hc : o.cls = .type "list") (hd : o.data = .seq (List.toArray vs) n) (hvs : VRs P vs ds)
theorem list_pool {P : Pool} {v : Value} {d : AV} {ds : List AV} (hd : d = .list ds \/ d = .wlist ds) (r : VR P v d) : LPool P v ds := by
 rcases hd with e | e
 . rw [e] at r; obtain ⟨a, vs, n, e, h1, h2⟩ := r.list_inv; exact ⟨_, _, _, _, e, h1, rfl, rfl, h2⟩
 . rw [e] at r; obtain ⟨a, o, vs, n, e, h1, h2, h3, h4⟩ := r.wlist_inv; exact ⟨_, _, _, _, e, h1, h2, h3, h4⟩
theorem VRs.at {P : Pool} {vs : List Value} {ds : List AV} (h : VRs P vs ds) {j : Nat} {v : Value} (hv : vs[j]? = some v) : ∃ d, ds[j]? = some d /\ VR P v d := by
 have hj : j < vs.length := (List.getElem?_eq_some_iff.mp hv).1; have hj' : j < ds.length := h.length ▸ hj; obtain ⟨v', e1, e2⟩ := h.get (getElem?_eq_getElem hj'); rw [e1] at hv; cases hv; exact ⟨_, getElem?_eq_getElem hj', e2⟩
inductive ItAt (cls : String) (h : Heap) (I : Addr) : Prop
 | intro (o : Obj) (h1 : h.get? I = some o) (h2 : o.cls = .type cls)
theorem all_one {p : Addr -> Prop} {a : Addr} (h : p a) : ∀ b ∈ [a], p b := fun _ hb => List.mem_singleton.mp hb ▸ h
theorem all_cons {p : Addr -> Prop} {a : Addr} {l : List Addr} (h : p a) (hl : ∀ b ∈ l, p b) : ∀ b ∈ a :: l, p b := List.forall_mem_cons.mpr ⟨h, hl⟩
theorem made1 {target : Expr} (ht : Tgt target) {cls : String} (hc : ["enumerate", "zip", "dict_itemiterator", "dict_reverseitemiterator", "odict_iterator", "itertools.zip_longest", "itertools.pairwise"].contains cls = false)
   {P : Pool} {s : Shared} {oI : Obj} {l : Addr} {o : Obj} {n : Nat} {Pv : Nat -> Value -> Prop} {St' : Nat -> Heap -> Prop} {ds : List AV} (S : Sat C P σ s) (hPl : P l = some o) (W : l ≠ s.heap.objs.size -> Walks C.prog C.w A s.heap.objs.size [s.heap.objs.size, l] [s.heap.objs.size] n Pv St')
   (hst : St' 0 (s.heap.push oI)) (hI : ∀ i h, St' i h -> ItAt cls h s.heap.objs.size) (hlen : ds.length = n) (hval : ∀ j v, j < n -> Pv j v -> ∀ P', PLe P P' -> ∃ d, ds[j]? = some d /\ VR P' v d) : MkOut C A target P ds σ (.ref s.heap.objs.size) { s with heap := s.heap.push oI } := by
 have hIn : s.heap.get? s.heap.objs.size = none := Heap.get?_none_of_le (le_refl _)
 exact made_of_walks S s.toks (fun b o e => Heap.get?_push_of_some _ e) (List.nodup_cons.mpr ⟨not_mem_nil, .nil⟩) (all_one hIn) (W (ne_of_lt (Heap.lt_size (S.pool _ _ hPl)))) hst
   (fun i h hs => all_one (by obtain ⟨o, h1, _⟩ := hI i h hs; exact ⟨o, h1⟩)) (all_cons (fun hw => absurd mem_cons_self hw) (all_one fun _ => ⟨o, hPl⟩)) target
   (fun i s' v Q E hs hq => by obtain ⟨o, h1, h2⟩ := hI _ _ hs; exact go_plain ht hc h1 h2 hq) ds hlen hval
theorem made1T {P : Pool} {s : Shared} {oI : Obj} {l : Addr} {o : Obj} {n : Nat} {Pt : Nat -> Array Value -> Prop} {St' : Nat -> Heap -> Prop} {Mid : Nat -> Addr -> Heap -> Prop} {ds : List AV} (S : Sat C P σ s) (hPl : P l = some o) (W : l ≠ s.heap.objs.size -> WalksT C.prog C.w A s.heap.objs.size [s.heap.objs.size, l] [s.heap.objs.size] n Pt St' Mid)
   (hst : St' 0 (s.heap.push oI)) (hI : ∀ i h, St' i h -> ∃ o, h.get? s.heap.objs.size = some o) (elts : List Expr) (k : Nat) (pos : Pos) (hlen : ds.length = n) (hval : ∀ j vals, j < n -> Pt j vals -> ∀ P', PLe P P' -> ∃ es, ds[j]? = some (.tuple es) /\ VRs P' vals.toList es) : MkOut C A (.Tuple elts k pos) P ds σ (.ref s.heap.objs.size) { s with heap := s.heap.push oI } := by
 have hIn : s.heap.get? s.heap.objs.size = none := Heap.get?_none_of_le (le_refl _)
 exact made_of_walksT S s.toks (fun b o e => Heap.get?_push_of_some _ e) (List.nodup_cons.mpr ⟨not_mem_nil, .nil⟩) (all_one hIn) (W (ne_of_lt (Heap.lt_size (S.pool _ _ hPl)))) hst
   (fun i h hs => all_one (hI i h hs)) (all_cons (fun hw => absurd mem_cons_self hw) (all_one fun _ => ⟨o, hPl⟩)) elts k pos ds hlen hval
theorem mk_list {target : Expr} (ht : Tgt target) (hh : A.handled = none) {d : AV} {ds : List AV} (hd : d = .list ds \/ d = .wlist ds) : MkIter C A target d ds σ := by
 intro P s v E S r; obtain ⟨l, o, vs, n, e, hPl, hc, hd', hvs⟩ := list_pool hd r; rw [e]; have hl : s.heap.IsList l vs.toArray := ⟨o, S.pool _ _ hPl, hc, n, hd'⟩; refine wpAny_pyIter_list hl ?_
 exact made1 ht (cls := "list_iterator") (by decide) S hPl (fun hne => Walks.list (prog := C.prog) (w := C.w) hh s.heap.objs.size l hne vs.toArray) ⟨⟨_, Heap.get?_push_size _ rfl, rfl, rfl⟩, hl.at fun o e => Heap.get?_push_of_some _ e⟩
   (fun i h hs => by obtain ⟨⟨o, h1, h2, _⟩, _⟩ := hs; exact ⟨o, h1, h2⟩) hvs.length.symm (fun j v hjn hv P' hl' => (hvs.mono hl').at (by rw [<- List.getElem?_toArray]; exact hv))
theorem mk_tuple {target : Expr} (ht : Tgt target) (hh : A.handled = none) {ds : List AV} : MkIter C A target (.tuple ds) ds σ := by
 intro P s v E S r; obtain ⟨l, o, vs, n, rfl, hPl, hc, hd', hvs⟩ := r.tuple_inv; have hl : s.heap.IsTuple l vs.toArray := ⟨o, S.pool _ _ hPl, hc, n, hd'⟩; refine wpAny_pyIter_tuple hl ?_
 exact made1 ht (cls := "tuple_iterator") (by decide) S hPl (fun hne => Walks.tuple (prog := C.prog) (w := C.w) hh s.heap.objs.size l hne vs.toArray) ⟨⟨_, Heap.get?_push_size _ rfl, rfl, rfl⟩, hl.at fun o e => Heap.get?_push_of_some _ e⟩
   (fun i h hs => by obtain ⟨⟨o, h1, h2, _⟩, _⟩ := hs; exact ⟨o, h1, h2⟩) hvs.length.symm (fun j v hjn hv P' hl' => (hvs.mono hl').at (by rw [<- List.getElem?_toArray]; exact hv))
theorem mk_dict {target : Expr} (ht : Tgt target) (hh : A.handled = none) {es : List (Int × AV)} : MkIter C A target (.dict es) (es.map fun p => .int p.1) σ := by
 intro P s v E S r; obtain ⟨a, kvs, rfl, q, g1, g2, g3⟩ := (RdD.frozen (σ := σ)).get S r; obtain ⟨o, hPa⟩ := r.dictP; obtain ⟨ep, hda⟩ := g1.dictAt; refine wpAny_pyIter_dict q hda ?_
 exact made1 ht (cls := "dict_keyiterator") (by decide) S hPa (fun hne => Walks.dictKeys (prog := C.prog) (w := C.w) hh s.heap.objs.size a hne kvs ep) ⟨⟨_, Heap.get?_push_size _ rfl, rfl, rfl⟩, hda.keep fun b o e => Heap.get?_push_of_some _ e⟩
   (fun i h hs => by obtain ⟨⟨o, h1, h2, _⟩, _⟩ := hs; exact ⟨o, h1, h2⟩) (by rw [length_map, g2.length])
   (fun j v hjn hv P' hl' => by
     obtain ⟨k, x, e1, e2⟩ := hv; obtain ⟨t, rfl⟩ := Value.isInt_shape e2; have hk := congrArg (fun l => l[j]?) g2.keys; simp only [getElem?_map, e1, Option.map_some] at hk
     cases he : es[j]? with
     | none => rw [he] at hk; cases hk
     | some p =>
       rw [he] at hk; have e3 : k = p.1 := by simpa using hk
       refine ⟨.int k, ?_, .int _ _⟩; rw [getElem?_map, he, e3]; rfl)
noncomputable def rangeO (a b c : Int) (t u v : Tok) : Obj := { cls := .type "range", dict := none, data := .fields #[.int a t, .int b u, .int c v], slots := #[] }
theorem mk_range {target : Expr} (ht : Tgt target) (hh : A.handled = none) {n : Nat} {t u v : Tok} (hn : n <= 2 ^ 24) : MkIter C A target (.obj (rangeO 0 n 1 t u v)) ((List.range n).map fun (i : Nat) => .int i) σ := by
 intro P s val E S r; obtain ⟨a, rfl, hPa⟩ := r.obj_inv; have hr : IsRange s.heap a 0 n 1 t u v := S.pool _ _ hPa; have hsz : Builtin.Range.rangeSize 0 n 1 = (n : Int) := by unfold Builtin.Range.rangeSize; simp; omega
 have hsmall : Builtin.Range.small 0 n 1 = true := by
   unfold Builtin.Range.small Builtin.Range.rangeFitsLong; rw [hsz]; simp
   omega
 refine wpAny_pyIter_range hr hsmall ?_; rw [hsz]; have hI : s.heap.get? s.heap.objs.size = none := Heap.get?_none_of_le (le_refl _)
 refine made_of_walks S s.toks (fun b o e => Heap.get?_push_of_some _ e) (by simp) (fun b hb => by rw [List.mem_singleton.mp hb]; exact hI)
   (Walks.range (prog := C.prog) (w := C.w) hh s.heap.objs.size 0 1 n) ?_
   (fun i h hs b hb => by rw [List.mem_singleton.mp hb]; exact ⟨_, hs⟩)
   (fun b hb hw => absurd hb hw) target
   (fun i s' v Q E hs hq => go_plain ht (cls := "range_iterator") (by decide) hs rfl hq) _ (by simp)
   (fun j v hjn hv P' hl' => ?_)
 . show (s.heap.push _).get? _ = _; rw [Heap.get?_push_size _ rfl]; simp
 . obtain ⟨t, rfl⟩ := hv; refine ⟨.int j, by rw [getElem?_map, getElem?_range hjn]; rfl, ?_⟩; have : (0 : Int) + (j : Int) * 1 = j := by omega
   rw [this]; exact .int _ _
end
end
section
theorem ne_add {l N k : Nat} (h : l < N) : l ≠ N + k := ne_of_lt (lt_of_lt_of_le h (le_add_right N k))
theorem zip_apart {l l' N : Nat} (h : l < N) (h' : l' < N) : ZipApart (N + 4) (N + 2) (N + 3) N (N + 1) l l' := by
 constructor <;> (show (_ : Nat) ≠ (_ : Nat)) <;> first | exact ne_add h | exact ne_add h' | exact (ne_add h).symm | exact (ne_add h').symm | exact ne_of_lt h | exact ne_of_lt h' | exact fun e => absurd (Nat.add_left_cancel e) (by decide) | omega
theorem entry_itemiter_iter : entryFor table "dict_itemiterator.__iter__" = some Builtin.«dict_keyiterator.__iter__» :=
 entryFor_alias (id' := "dict_keyiterator.__iter__") (by kernel_rfl) rfl (by decide +kernel) (by kernel_rfl)
noncomputable def enumD : Nat -> List AV -> List AV
 | _, [] => []
 | k, d :: ds => .tuple [.int k, d] :: enumD (k + 1) ds
theorem enumD_get : ∀ (ds : List AV) (k j : Nat) (d : AV), ds[j]? = some d -> (enumD k ds)[j]? = some (.tuple [.int ((k + j : Nat) : Int), d])
 | [], _, _, _, h => by simp at h
 | e :: ds, k, 0, d, h => by simp at h; subst h; rfl
 | e :: ds, k, j + 1, d, h => by
   show (enumD (k + 1) ds)[j]? = _; rw [enumD_get ds (k + 1) j d (by simpa using h)]; have : k + 1 + j = k + (j + 1) := add_right_comm k 1 j; rw [this]
theorem enumD_length : ∀ (ds : List AV) (k : Nat), (enumD k ds).length = ds.length
 | [], _ => rfl
 | _ :: ds, k => by show (enumD (k + 1) ds).length + 1 = ds.length + 1; rw [enumD_length]
noncomputable def zipD : List AV -> List AV -> List AV
 | d :: ds, e :: es => .tuple [d, e] :: zipD ds es
 | _, _ => []
theorem zipD_get : ∀ (ds es : List AV) (j : Nat) (d e : AV), ds[j]? = some d -> es[j]? = some e -> (zipD ds es)[j]? = some (.tuple [d, e])
 | [], _, _, _, _, h, _ => by simp at h
 | _ :: _, [], _, _, _, _, h => by simp at h
 | x :: ds, y :: es, 0, d, e, h, h' => by simp at h h'; subst h; subst h'; rfl
 | x :: ds, y :: es, j + 1, d, e, h, h' => by
   show (zipD ds es)[j]? = _; exact zipD_get ds es j d e (by simpa using h) (by simpa using h')
theorem zipD_length : ∀ (ds es : List AV), (zipD ds es).length = min ds.length es.length
 | [], es => (Nat.zero_min es.length).symm
 | d :: ds, [] => (Nat.min_zero (d :: ds).length).symm
 | x :: ds, y :: es => (congrArg (· + 1) (zipD_length ds es)).trans (Nat.succ_min_succ _ _).symm
theorem walksT_items {prog : Program} {w : World} {A : Around} {K : Type} [DecidableEq K] {knd : KeyKind prog w K} (hh : A.handled = none) (I d : Addr) (hne : d ≠ I) (kvs : List (K × Value)) (ep : Nat) (hself : ∀ (s : Shared) (h : ∃ o, s.heap.get? I = some o /\ o.cls = .type "dict_itemiterator") (Q : Value -> Shared -> Prop) E, Q (.ref I) s -> wpAny (model prog w) A (pyIter (.ref I)) Q E s) :
   WalksT prog w A I [I, d] [I] kvs.length (fun i vals => ∃ k x key, kvs[i]? = some (k, x) /\ knd.is k key = true /\ vals = #[key, x])
     (fun i h => (∃ ok ov, IsItemIter h I d i kvs.length ep ok ov) /\ h.DictAt knd d kvs ep) (fun i T h => (∃ ok ov, IsItemIterOut h I d (i + 1) kvs.length ep ok ov T) /\ h.DictAt knd d kvs ep /\ T ≠ I) where
 sub := fun b hb => by simp at hb; simp [hb]
 frame := fun i h h' st hk => by
   obtain ⟨⟨ok, ov, h1⟩, h2⟩ := st; exact ⟨⟨ok, ov, hk I (by simp) _ h1⟩, h2.at' fun o e => hk d (by simp) o e⟩
 item := fun i s Q E hi st hQ => by
   obtain ⟨⟨ok, ov, h1⟩, h2⟩ := st; obtain ⟨⟨k, x⟩, hx⟩ : ∃ p, kvs[i]? = some p := ⟨kvs[i], by simp [hi]⟩; refine wpAny_pyNext_items_item h1 h2 hx fun key h' hkey hout hT hsz hkeep => ?_; have hIlt : I < s.heap.objs.size := Heap.lt_size h1; exact hQ _ #[key, x] h' s.toks ⟨k, x, key, hx, hkey, rfl⟩ (le_refl _) ⟨_, hT, rfl, _, rfl⟩ ⟨⟨_, _, hout⟩, h2.at' fun o e => hkeep d o hne e, ne_of_gt hIlt⟩ fun b o hb e => hkeep b o (fun q => hb (by simp [q])) e
 go := fun elts k pos i T s Q E hm hQ => by
   obtain ⟨⟨ok, ov, h1⟩, h2, h3⟩ := hm; exact wpAny_letOwnedTupleGo_items h1 fun h' hi hs => hQ h' ⟨⟨ok, ov, hi⟩, h2.extBut hs.extBut hne⟩ fun b o hb e => hs.extBut b o (fun q => hb (by simp [q])) e
 apart := fun i T h hm hT => hm.2.2 (by simpa using hT)
 done := fun s Q E st hQ => by
   obtain ⟨⟨ok, ov, h1⟩, h2⟩ := st; exact wpAny_pyNext_items_end hh h1 h2 (by simp) fun h' he => hQ h' s.toks fun b o hb e => he b o (fun q => hb (by simp [q])) e
 self := fun i s Q E st hQ => by
   obtain ⟨⟨ok, ov, h1⟩, h2⟩ := st; exact hself s ⟨_, h1, rfl⟩ Q E hQ
theorem VRkv.at {P : Pool} {kvs : List (Int × Value)} {ds : List (Int × AV)} (h : VRkv P kvs ds) {j : Nat} {k : Int} {v : Value} (e : kvs[j]? = some (k, v)) : ∃ d, ds[j]? = some (k, d) /\ VR P v d := by
 induction h generalizing j with
 | nil => cases e
 | cons h _ ih =>
   cases j with
   | zero => injection e with e; injection e with e1 e2; exact ⟨_, by rw [<- e1]; rfl, e2 ▸ h⟩
   | succ j => exact ih e
section
variable {C : Cx} {A : Around} {σ : St} {env : Env} {pos : Pos}
noncomputable def MkCall (C : Cx) (A : Around) (target : Expr) (T : String) (as ds : List AV) (σ : St) : Prop :=
 ∀ P s vs, Sat C P σ s -> VRs P vs as -> wpAny (model C.prog C.w) A (call (.type T) vs) (fun v s₁ => wpAny (model C.prog C.w) A (pyIter v) (MkOut C A target P ds σ) No s₁) No s
theorem evIter_call {target func : Expr} {args : List Expr} {T : String} {Q : List AV -> St -> Prop}
   (h : Ev C A (eval func env) σ fun f σ₁ => f = .val (.type T) /\ Evs C A (spliced (backTo pos (starEach args env))) σ₁ fun as σ₂ => ∃ ds, MkCall C A target T as ds σ₂ /\ Q ds σ₂)
   (he : eval (.Call func args [] pos) env = (do callWith pos (<- eval func env) [] (backTo pos (starEach args env)) []))
   (ha : (backTo pos (starEach args env)).any (·.1) = false) (hb : ∃ x rest, backTo pos (starEach args env) = (false, x) :: rest) : EvIter C A env target (.Call func args [] pos) σ Q := by
 intro P s S; rw [he]; refine wpAny_bind (h.run S fun P₁ v₁ f σ₁ s₁ l₁ S₁ r₁ hzz => ?_); obtain ⟨e, q₁⟩ := hzz; subst e; obtain rfl := r₁.val_inv; refine PyProof.Rows.callWith_type ha ?_; obtain ⟨x, rest, e⟩ := hb; rw [e]; refine PySem.Calls.evalArgs_plain ?_; rw [<- e]; refine q₁.run S₁ fun P₂ vs as σ₂ s₂ l₂ S₂ r₂ hzz => ?_; obtain ⟨ds, mk, q₂⟩ := hzz; refine wpAny_mono (mk P₂ s₂ vs S₂ r₂) (fun v s₃ h₃ => wpAny_mono h₃ (fun it s₄ hzz => by obtain ⟨P₄, es, l₄, S₄, st, sf⟩ := hzz; exact ⟨P₄, es, ds, σ₂, (l₁.trans l₂).trans l₄, S₄, st, sf, q₂⟩) fun _ _ x => x) fun _ _ x => x
theorem mkc_enum_list (hh : A.handled = none) {elts : List Expr} {k : Nat} {d : AV} {ds : List AV} (hd : d = .list ds \/ d = .wlist ds) : MkCall C A (.Tuple elts k pos) "enumerate" [d] (enumD 0 ds) σ := by
 rintro P s vs0 S rs0; obtain ⟨v0, rfl, r⟩ := rs0.inv1; obtain ⟨l, o, vs, n, rfl, hPl, hc, hd', hvs⟩ := list_pool hd r; have hl : s.heap.IsList l vs.toArray := ⟨o, S.pool _ _ hPl, hc, n, hd'⟩; refine call_enumerate_list hl fun h' he hit hsz hk => ?_; have hn : ∀ b, s.heap.objs.size <= b -> s.heap.get? b = none := fun b hb => Heap.get?_none_of_le hb; have hlt : l < s.heap.objs.size := Heap.lt_size (S.pool _ _ hPl); have W := WalksT.enumerate (prog := C.prog) (w := C.w) hh (s.heap.objs.size + 1) s.heap.objs.size l (Nat.succ_ne_self _) (ne_add (k := 1) hlt) (ne_of_lt hlt) vs.toArray; have hst : (∃ old, IsEnum h' (s.heap.objs.size + 1) s.heap.objs.size ((0 : Nat) : Int) old) /\ h'.IsListIter s.heap.objs.size l 0 /\ h'.IsList l vs.toArray := ⟨⟨_, he⟩, hit, hl.at fun o e => hk _ _ e⟩; refine W.self 0 { s with heap := h' } _ _ hst ?_
 exact made_of_walksT S s.toks hk (by simp) (all_cons (hn _ (le_succ _)) (all_one (hn _ (le_refl _)))) W hst
   (fun i h hs => by obtain ⟨⟨old, h1⟩, ⟨o2, h2, _⟩, _⟩ := hs; exact all_cons ⟨_, h1⟩ (all_one ⟨_, h2⟩))
   (all_cons (fun hw => absurd (.head _) hw) (all_cons (fun hw => absurd (.tail _ (.head _)) hw) (all_one fun _ => ⟨o, hPl⟩))) elts k pos (enumD 0 ds) ((enumD_length ds 0).trans hvs.length.symm)
   (fun j vals hj hv P' hl' => by
     obtain ⟨t, x, e1, rfl⟩ := hv; obtain ⟨d, g1, g2⟩ := (hvs.mono hl').at (j := j) (v := x) (by simpa using e1); refine ⟨_, enumD_get ds 0 j d g1, ?_⟩; have : ((0 + j : Nat) : Int) = (j : Int) := by rw [zero_add]
     rw [this]; exact .cons (.int _ _) (.cons g2 .nil))
noncomputable def ZipSt (N : Nat) (l l' : Addr) (xs ys : Array Value) (i : Nat) (h : Heap) : Prop :=
 IsZip h (N + 4) (N + 2) (N + 3) .none /\ IsPair h (N + 2) (.ref N) (.ref (N + 1)) /\ (∃ a b, IsPair h (N + 3) a b) /\ h.IsListIter N l i /\ h.IsListIter (N + 1) l' i /\ h.IsList l xs /\ h.IsList l' ys
theorem ZipSt.ex {N : Nat} {l l' : Addr} {xs ys : Array Value} {i : Nat} {h : Heap} (hs : ZipSt N l l' xs ys i h) : ∀ b ∈ [N + 4, N + 3, N, N + 1], ∃ o, h.get? b = some o := by
 obtain ⟨h1, h2, ⟨a, b, h3⟩, ⟨o4, h4, _⟩, ⟨o5, h5, _⟩, _⟩ := hs; exact all_cons ⟨_, h1⟩ (all_cons ⟨_, h3⟩ (all_cons ⟨_, h4⟩ (all_one ⟨_, h5⟩)))
theorem mkc_zip (hh : A.handled = none) {elts : List Expr} {k : Nat} {d e : AV} {ds es : List AV} (hd : d = .list ds \/ d = .wlist ds) (he : e = .list es \/ e = .wlist es) : MkCall C A (.Tuple elts k pos) "zip" [d, e] (zipD ds es) σ := by
 rintro P s vs0 S rs0; obtain ⟨v0, v1, rfl, r, r'⟩ := rs0.inv2; obtain ⟨l, o, vs, n, rfl, hPl, hc, hd', hvs⟩ := list_pool hd r; obtain ⟨l', o', vs', n', rfl, hPl', hc', hd'', hvs'⟩ := list_pool he r'; have hl : s.heap.IsList l vs.toArray := ⟨o, S.pool _ _ hPl, hc, n, hd'⟩; have hl' : s.heap.IsList l' vs'.toArray := ⟨o', S.pool _ _ hPl', hc', n', hd''⟩; refine call_zip_2 hl hl' fun h' hz hp1 hp2 hi1 hi2 hsz hk => ?_; have hn : ∀ b, s.heap.objs.size <= b -> s.heap.get? b = none := fun b hb => Heap.get?_none_of_le hb; have hlt : l < s.heap.objs.size := Heap.lt_size (S.pool _ _ hPl); have hlt' : l' < s.heap.objs.size := Heap.lt_size (S.pool _ _ hPl'); generalize hN : s.heap.objs.size = N at *; have D : ZipApart (N + 4) (N + 2) (N + 3) N (N + 1) l l' := zip_apart hlt hlt'; have W : WalksT C.prog C.w A (N + 4) [N + 4, N + 2, N + 3, N, N + 1, l, l'] [N + 4, N + 3, N, N + 1] _ _ (ZipSt N l l' vs.toArray vs'.toArray) _ := WalksT.zip2 hh (N + 4) (N + 2) (N + 3) N (N + 1) l l' D vs.toArray vs'.toArray; have hT0 : s.heap.get? (N + 2) = none := hn _ (le_add_right N 2); obtain ⟨q1, q2⟩ := S.none_of_fresh hT0; have lT := addP_le { cls := .type "tuple", data := .seq #[.ref N, .ref (N + 1)] } q1
 have hst : ZipSt N l l' vs.toArray vs'.toArray 0 h' :=
   ⟨hz, hp1, ⟨_, _, hp2⟩, hi1, hi2, hl.at fun o e => hk _ _ e, hl'.at fun o e => hk _ _ e⟩
 refine W.self 0 { s with heap := h' } _ _ hst ?_; obtain ⟨en, hob⟩ := ObjsAt.of_ex hst.ex; have hnd : [N + 4, N + 3, N, N + 1].Nodup := by simp
 have hnew : ∀ b ∈ [N + 4, N + 3, N, N + 1], s.heap.get? b = none := all_cons (hn _ (le_add_right N 4)) (all_cons (hn _ (le_add_right N 3)) (all_cons (hn _ (le_refl _)) (all_one (hn _ (le_add_right N 1))))); have S₁ := fresh_entries S s.toks hk hnd hnew hob
 have S₂ := S₁.frozen (a := N + 2) (o := { cls := .type "tuple", data := .seq #[.ref N, .ref (N + 1)] }) q1 (by
   rw [map_append, hob.keys]; intro hm; rcases List.mem_append.mp hm with hm | hm
   . simp at hm
   . exact q2 hm) hp1
 have hpool : ∀ b ∈ [N + 4, N + 2, N + 3, N, N + 1, l, l'], b ∉ [N + 4, N + 3, N, N + 1] -> ∃ o, addP P (N + 2) { cls := .type "tuple", data := .seq #[.ref N, .ref (N + 1)] } b = some o :=
   all_cons (fun hw => absurd (.head _) hw) (all_cons (fun _ => ⟨_, addP_self _ _ _⟩) (all_cons (fun hw => absurd (.tail _ (.head _)) hw) (all_cons (fun hw => absurd (.tail _ (.tail _ (.head _))) hw) (all_cons (fun hw => absurd (.tail _ (.tail _ (.tail _ (.head _)))) hw) (all_cons (fun _ => ⟨o, lT _ _ hPl⟩) (all_one fun _ => ⟨o', lT _ _ hPl'⟩))))))
 refine ⟨_, en, lT, S₂, ?_, ?_⟩
 . have := steps_of_walksT W (fun _ _ => ZipSt.ex) hpool elts k pos (zipD ds es) (by rw [zipD_length]; simp [hvs.length, hvs'.length]) (fun j vals hj hv P' hl'' => by
     obtain ⟨x, y, e1, e2, rfl⟩ := hv; obtain ⟨d, g1, g2⟩ := (hvs.mono (lT.trans hl'')).at (j := j) (v := x) (by simpa using e1); obtain ⟨e, g3, g4⟩ := (hvs'.mono (lT.trans hl'')).at (j := j) (v := y) (by simpa using e2); exact ⟨_, zipD_get ds es j d e g1 g3, .cons g2 (.cons g4 .nil)⟩) _ 0 rfl _ en hst hob (fun a o e => S₂.pool a o e) (zero_le _)
   simpa using this
 . intro σ' P' s' E' K hl'' S'' hK; refine W.self 0 s' _ _ (W.frame 0 _ _ hst fun b hb o e => ?_) hK; by_cases hw : b ∈ [N + 4, N + 3, N, N + 1]
   . exact hob.sat S'' b hw o e
   . obtain ⟨o', e'⟩ := hpool b hb hw; have := S₂.pool _ _ e'; rw [this] at e; cases e; exact S''.pool _ _ (hl'' _ _ e')
theorem items_self {I : Addr} {s : Shared} (h : ∃ o, s.heap.get? I = some o /\ o.cls = .type "dict_itemiterator") {Q : Value -> Shared -> Prop} {E : Value -> Shared -> Prop} (hQ : Q (.ref I) s) : wpAny (model C.prog C.w) A (pyIter (.ref I)) Q E s := by
 obtain ⟨o, ho, hc⟩ := h; have hT : s.TypeIs (.ref I) "dict_itemiterator" := ⟨o, ho, hc⟩; refine wpAny_pyIter_slot hT F.slot_dict_itemiterator_iter (wpAny_call_entry F.slot_dict_itemiterator_iter hT entry_itemiter_iter ?_ (F.args_dict_itemiterator_iter_1 _)); show wpAny _ _ (ret (.ref I)) _ _ s; exact wpAny_pure ⟨_, rfl, "dict_itemiterator", _, hT, F.slot_dict_itemiterator_next.lookup, hQ⟩
noncomputable abbrev McForm (env : Env) (o : Expr) (name : Str) (apos : Pos) (args : List Expr) (pos : Pos) (pl : Sem Bool) : Prop := eval (.Call (.Attribute o name apos) args [] pos) env = (do
     let ov <- eval o env
     standAt apos.atName
     let (f, first) <- holding [ov] (getMethod ov name pl)
     callWith pos f first (backTo pos (starEach args env)) [])
theorem evIter_items {o : Expr} {apos p : Pos} {pl : Sem Bool} {elts : List Expr} {k : Nat} {Q : List AV -> St -> Prop} (hh : A.handled = none)
   (h : Ev C A (eval o env) σ fun d σ₁ => ∃ es, d = .dict es /\ Q (es.map fun q => .tuple [.int q.1, q.2]) σ₁) (he : McForm env o "items" apos [] pos pl) : EvIter C A env (.Tuple elts k p) (.Call (.Attribute o "items" apos) [] [] pos) σ Q := by
 intro P s S; refine PyProof.Rows.MethodCall_ (pl := pl) (h.run S fun P₁ v d σ₁ s₁ l₁ S₁ r₁ hzz => ?_) he; obtain ⟨es, e, q⟩ := hzz; subst e; obtain ⟨a, kvs, rfl, qs, g1, g2, g3⟩ := (RdD.frozen (σ := σ₁)).get S₁ r₁; obtain ⟨oa, hPa⟩ := r₁.dictP; refine PySem.getMethod_builtin g1.typeIs F.plainAttrs_dict F.slot_dict_items F.type_dict_items g1.mapOf.noDict ?_; refine PyProof.Rows.callWith_method0 (call_meetsIn F.slot_dict_items g1.typeIs F.entry_dict_items (F.args_dict_items_1 _) (meets_dict_items (intKind C.prog C.w) a qs) ⟨⟨_, g1⟩, ?_⟩); obtain ⟨ep, hda⟩ := g1.dictAt; have S₂ := S₁.heap (h' := s₁.heap.push { cls := .type "dict_items", data := .fields #[.ref a] }) s₁.toks (fun b o e => Heap.get?_push_of_some _ e); have hda₂ := hda.keep (fun b o e => Heap.get?_push_of_some (o := { cls := .type "dict_items", data := .fields #[.ref a] }) e); refine wpAny_pyIter_items (v := s₁.heap.objs.size) ⟨_, Heap.get?_push_size _ rfl, rfl, rfl⟩ hda₂ ?_; generalize hH : s₁.heap.push { cls := .type "dict_items", data := .fields #[.ref a] } = H at S₂ hda₂ ⊢
 obtain ⟨P', es', l', S', st, sf⟩ := made1T (C := C) (A := A) (s := { s₁ with heap := H }) (oI := { cls := .type "dict_itemiterator", data := .fields #[.none, .bool false, .ref a, .int 0 0, .int kvs.length 0, .int ep 0, .none, .none] }) S₂ hPa
   (fun hne => walksT_items (prog := C.prog) (w := C.w) (knd := intKind C.prog C.w) hh H.objs.size a hne kvs ep fun s h Q E hQ => items_self h hQ)
   ⟨⟨_, _, Heap.get?_push_size _ rfl⟩, hda₂.keep fun b o e => Heap.get?_push_of_some _ e⟩
   (fun i h hs => by obtain ⟨⟨_, _, ho⟩, _⟩ := hs; exact ⟨_, ho⟩) elts k p (ds := es.map fun q => .tuple [.int q.1, q.2]) (by rw [length_map, g2.length])
   (fun j vals hjn hv P' hl' => by
     obtain ⟨kk, x, key, e1, e2, rfl⟩ := hv; obtain ⟨t, rfl⟩ := Value.isInt_shape e2; obtain ⟨d, g4, g5⟩ := (g2.mono hl').at e1; exact ⟨_, by rw [getElem?_map, g4]; rfl, .cons (.int _ _) (.cons g5 .nil)⟩)
 exact ⟨P', es', _, σ₁, l₁.trans l', S', st, sf, q⟩
theorem evIter_values {o : Expr} {apos : Pos} {pl : Sem Bool} {target : Expr} {Q : List AV -> St -> Prop} (ht : Tgt target) (hh : A.handled = none)
   (h : Ev C A (eval o env) σ fun d σ₁ => ∃ es, d = .dict es /\ Q (es.map fun q => q.2) σ₁) (he : McForm env o "values" apos [] pos pl) : EvIter C A env target (.Call (.Attribute o "values" apos) [] [] pos) σ Q := by
 intro P s S; refine PyProof.Rows.MethodCall_ (pl := pl) (h.run S fun P₁ v d σ₁ s₁ l₁ S₁ r₁ hzz => ?_) he; obtain ⟨es, e, q⟩ := hzz; subst e; obtain ⟨a, kvs, rfl, qs, g1, g2, g3⟩ := (RdD.frozen (σ := σ₁)).get S₁ r₁; obtain ⟨oa, hPa⟩ := r₁.dictP; refine PySem.getMethod_builtin g1.typeIs F.plainAttrs_dict F.slot_dict_values F.type_dict_values g1.mapOf.noDict ?_; refine PyProof.Rows.callWith_method0 (call_meetsIn F.slot_dict_values g1.typeIs F.entry_dict_values (F.args_dict_values_1 _) (meets_dict_values (intKind C.prog C.w) a qs) ⟨⟨_, g1⟩, ?_⟩); obtain ⟨ep, hda⟩ := g1.dictAt; have S₂ := S₁.heap (h' := s₁.heap.push { cls := .type "dict_values", data := .fields #[.ref a] }) s₁.toks (fun b o e => Heap.get?_push_of_some _ e); have hda₂ := hda.keep (fun b o e => Heap.get?_push_of_some (o := { cls := .type "dict_values", data := .fields #[.ref a] }) e); refine wpAny_pyIter_values (v := s₁.heap.objs.size) ⟨_, Heap.get?_push_size _ rfl, rfl, rfl⟩ hda₂ ?_; generalize hH : s₁.heap.push { cls := .type "dict_values", data := .fields #[.ref a] } = H at S₂ hda₂ ⊢
 obtain ⟨P', es', l', S', st, sf⟩ := made1 (C := C) (A := A) (s := { s₁ with heap := H }) (oI := { cls := .type "dict_valueiterator", data := .fields #[.ref a, .int 0 0, .int kvs.length 0, .int ep 0] }) ht (cls := "dict_valueiterator") (by decide) S₂ hPa
   (fun hne => Walks.dictValues (prog := C.prog) (w := C.w) (knd := intKind C.prog C.w) hh H.objs.size a hne kvs ep)
   ⟨⟨_, Heap.get?_push_size _ rfl, rfl, rfl⟩, hda₂.keep fun b o e => Heap.get?_push_of_some _ e⟩
   (fun i h hs => by obtain ⟨⟨o, h1, h2, _⟩, _⟩ := hs; exact ⟨o, h1, h2⟩) (ds := es.map fun q => q.2) (by rw [length_map, g2.length])
   (fun j v hjn hv P' hl' => by
     obtain ⟨kk, e1⟩ := hv; obtain ⟨d, g4, g5⟩ := (g2.mono hl').at e1; exact ⟨_, by rw [getElem?_map, g4]; rfl, g5⟩)
 exact ⟨P', es', _, σ₁, l₁.trans l', S', st, sf, q⟩
end
end
section
noncomputable def turnTree (p : Pos) (g : Comprehension) (it : Value) (env : Env) (bodyK : Sem Fin -> Sem Fin) (c : Code) : Sem Fin := do
 standAt p
 match <- pyNext it with
 | none => pure (.done .next)
 | some v =>
   letOwnedTupleGo g.target it v
   assign g.target env v
   let mut ok := true
   for c in g.ifs do
     if ok then ok <- isTrue c env (eval c env)
   if ok then bodyK (again c) else again c
noncomputable def emitL (elt : Expr) (acc : Value) (env : Env) : Sem Unit := do let _ <- call (.builtin "list.append") [acc, <- eval elt env]
noncomputable def emitD (k v : Expr) (D : Addr) (env : Env) : Sem Unit := do
 let kv <- eval k env
 let vv <- holding [kv] (eval v env)
 standAt { k.pos with endLine := v.pos.endLine, endCol := v.pos.endCol }
 holding [kv, vv] (dictSet D kv vv)
noncomputable def inner (e : Expr) (d : Nat) (g : Comprehension) (acc : Value) (env : Env) : Sem Unit := do
 let x <- eval g.iter env
 standAt g.iter.pos
 let x <- foldedSetIterable g.iter env x
 let _ <- runOwn (.compStart e d (<- holding [x] (pyIter x)) acc env) env
noncomputable def innerK (e : Expr) (d : Nat) (g : Comprehension) (acc : Value) (env : Env) (k : Sem Fin) : Sem Fin := do
 let x <- eval g.iter env
 standAt g.iter.pos
 let x <- foldedSetIterable g.iter env x
 let _ <- runOwn (.compStart e d (<- holding [x] (pyIter x)) acc env) env
 k
theorem turn_L1 (elt t i : Expr) (ifs : List Expr) (sc : Scope) (p : Pos) (it acc : Value) (env : Env) :
   compTurn (.ListComp elt [⟨t, i, ifs, 0⟩] sc p) 0 it acc env = turnTree i.pos ⟨t, i, ifs, 0⟩ it env (fun k => emitL elt acc env >>= fun _ => k) (.compLoop (.ListComp elt [⟨t, i, ifs, 0⟩] sc p) 0 it acc env) := by rfl
theorem turn_L20 (elt t i t' i' : Expr) (ifs ifs' : List Expr) (sc : Scope) (p : Pos) (it acc : Value) (env : Env) :
   compTurn (.ListComp elt [⟨t, i, ifs, 0⟩, ⟨t', i', ifs', 0⟩] sc p) 0 it acc env = turnTree i.pos ⟨t, i, ifs, 0⟩ it env (innerK (.ListComp elt [⟨t, i, ifs, 0⟩, ⟨t', i', ifs', 0⟩] sc p) 1 ⟨t', i', ifs', 0⟩ acc env) (.compLoop (.ListComp elt [⟨t, i, ifs, 0⟩, ⟨t', i', ifs', 0⟩] sc p) 0 it acc env) := by rfl
theorem turn_L21 (elt t i t' i' : Expr) (ifs ifs' : List Expr) (sc : Scope) (p : Pos) (it acc : Value) (env : Env) :
   compTurn (.ListComp elt [⟨t, i, ifs, 0⟩, ⟨t', i', ifs', 0⟩] sc p) 1 it acc env = turnTree i'.pos ⟨t', i', ifs', 0⟩ it env (fun k => emitL elt acc env >>= fun _ => k) (.compLoop (.ListComp elt [⟨t, i, ifs, 0⟩, ⟨t', i', ifs', 0⟩] sc p) 1 it acc env) := by rfl
theorem turn_D1 (k v t i : Expr) (ifs : List Expr) (sc : Scope) (p : Pos) (it : Value) (D : Addr) (env : Env) :
   compTurn (.DictComp k v [⟨t, i, ifs, 0⟩] sc p) 0 it (.ref D) env = turnTree i.pos ⟨t, i, ifs, 0⟩ it env (fun r => emitD k v D env >>= fun _ => r) (.compLoop (.DictComp k v [⟨t, i, ifs, 0⟩] sc p) 0 it (.ref D) env) := by rfl
theorem turn_D20 (k v t i t' i' : Expr) (ifs ifs' : List Expr) (sc : Scope) (p : Pos) (it : Value) (D : Addr) (env : Env) :
   compTurn (.DictComp k v [⟨t, i, ifs, 0⟩, ⟨t', i', ifs', 0⟩] sc p) 0 it (.ref D) env = turnTree i.pos ⟨t, i, ifs, 0⟩ it env (innerK (.DictComp k v [⟨t, i, ifs, 0⟩, ⟨t', i', ifs', 0⟩] sc p) 1 ⟨t', i', ifs', 0⟩ (.ref D) env) (.compLoop (.DictComp k v [⟨t, i, ifs, 0⟩, ⟨t', i', ifs', 0⟩] sc p) 0 it (.ref D) env) := by rfl
theorem turn_D21 (k v t i t' i' : Expr) (ifs ifs' : List Expr) (sc : Scope) (p : Pos) (it : Value) (D : Addr) (env : Env) :
   compTurn (.DictComp k v [⟨t, i, ifs, 0⟩, ⟨t', i', ifs', 0⟩] sc p) 1 it (.ref D) env = turnTree i'.pos ⟨t', i', ifs', 0⟩ it env (fun r => emitD k v D env >>= fun _ => r) (.compLoop (.DictComp k v [⟨t, i, ifs, 0⟩, ⟨t', i', ifs', 0⟩] sc p) 1 it (.ref D) env) := by rfl
inductive IsComp : Expr -> Prop
 | list (elt : Expr) (gens : List Comprehension) (sc : Scope) (p : Pos) : IsComp (.ListComp elt gens sc p)
 | dict (k v : Expr) (gens : List Comprehension) (sc : Scope) (p : Pos) : IsComp (.DictComp k v gens sc p)
noncomputable abbrev testTree (env : Env) (ifs : List Expr) : Sem Bool := forIn ifs true fun c r => if r = true then do let ok <- isTrue c env (eval c env); pure (ForInStep.yield ok) else pure (ForInStep.yield r)
section
variable {C : Cx} {A : Around} {σ : St} {env : Env} {pos : Pos}
theorem tests_nil {Q : Bool -> St -> Prop} (h : Q true σ) : Eb C A (testTree env []) σ Q := fun P s S => by
 show wpAny _ _ (forIn [] true _) _ _ _; rw [List.forIn_nil]; exact wpAny_pure (Post.mk (R := RB) S rfl h)
theorem tests_one {c : Expr} {Q : Bool -> St -> Prop} (h : Eb C A (isTrue c env (eval c env)) σ Q) : Eb C A (testTree env [c]) σ Q := fun P s S => by
 show wpAny _ _ (forIn [c] true _) _ _ _; rw [List.forIn_cons]; simp only [if_true]; refine wpAny_bind (wpAny_bind (h.run S fun P₁ v b σ₁ s₁ l₁ S₁ r₁ q₁ => wpAny_pure ?_)); show wpAny _ _ (forIn [] v _) _ _ _; rw [List.forIn_nil]; exact wpAny_pure ⟨P₁, b, σ₁, l₁, S₁, r₁, q₁⟩
inductive CompK {X : Type} (G : X -> St) (Inv : List AV -> X -> Prop) (rest : List AV) (τ' σ₃ : St) : Prop
 | intro (x' : X) (hs : (G x' ++ τ').Sublist σ₃) (hi : Inv rest x')
inductive CompOut {X : Type} (C : Cx) (G : X -> St) (Inv : List AV -> X -> Prop) (τ : St) (P : Pool) (r : Result) (s' : Shared) : Prop
 | intro (e : r = .ok .next) (P' : Pool) (x' : X) (l : PLe P P') (S : Sat C P' (G x' ++ τ) s') (hi : Inv [] x')
theorem comp_loop {e : Expr} {depth : Nat} {p : Pos} {g : Comprehension} {body : Sem Unit} {I acc : Value} {cenv : Env} (hcomp : IsComp e)
   {bodyK : Sem Fin -> Sem Fin} (hc : compTurn e depth I acc cenv = turnTree p g I cenv bodyK (.compLoop e depth I acc cenv))
   (hbk : ∀ (K : Fin -> Shared -> Prop) (E : Value -> Shared -> Prop) s k, wpAny (model C.prog C.w) A body (fun _ s' => wpAny (model C.prog C.w) A k K E s') E s -> wpAny (model C.prog C.w) A (bodyK k) K E s) {X : Type} (G : X -> St) (Inv : List AV -> X -> Prop) {τ : St}
   (turn : ∀ d rest x τ', (∀ q ∈ τ, q ∈ τ') -> Inv (d :: rest) x -> Op1 RU C A (assign g.target cenv) d (G x ++ τ') fun _ σ₁ => Eb C A (testTree cenv g.ifs) σ₁ fun ok σ₂ =>
     if ok then Eu C A body σ₂ fun _ => CompK G Inv rest τ' else CompK G Inv rest τ' σ₂)
   {P₂ P : Pool} {s : Shared} {es : St} {ds : List AV} {x : X} (l : PLe P₂ P) (S : Sat C P (G x ++ (es ++ τ)) s) (st : Steps C A g.target I P₂ ds es) (hi : Inv ds x) :
   codeAny (model C.prog C.w) A (.compLoop e depth I acc cenv) (CompOut C G Inv τ P) s := by
 have key : ∀ (A : Around) (Pf : Fin -> Shared -> Prop) (E : Value -> Shared -> Prop) s, wpAny (model C.prog C.w) A ((compTurn e depth I acc cenv).onRaise (fun x => do noteFrame x cenv; theTreesLotGoes x)) Pf E s ->
     wpAny (model C.prog C.w) A ((model C.prog C.w).den (.compLoop e depth I acc cenv)) Pf E s := by
   intro A Pf E s h; cases hcomp <;> exact h
 have hu : A.under (.compLoop e depth I acc cenv) = A := by cases hcomp <;> rfl
 refine codeAny_loop (by cases hcomp <;> rfl) (ForSt C A G Inv τ g.target I P P₂) ?_ _ ⟨ds, x, es, P, rfl, PLe.refl _, l, S, st, hi⟩; intro n s₃ hzz; obtain ⟨ds, x, es, P₃, e, l₃, b₃, S₃, st, hi⟩ := hzz; subst e; rw [hu]; refine key _ _ _ _ (wpAny_noted ?_); rw [hc]; have S₃' := S₃.perm ((swap_perm es (G x) τ).symm); unfold turnTree; refine wpAny_bind (wpAny_standAt (wpAny_bind ?_))
 cases ds with
 | nil =>
   refine wpAny_mono (st _ _ _ _ b₃ S₃') (fun r s₄ hzz => ?_) fun _ _ x => x; obtain ⟨e, P₄, es', l₄, S₄⟩ := hzz; subst e; have S₅ := (S₄.perm (swap_perm es' (G x) τ)).sub (σ' := G x ++ τ) (List.Sublist.append (List.Sublist.refl _) (List.sublist_append_right _ _)); exact wpAny_pure ⟨rfl, P₄, x, l₃.trans l₄, S₅, hi⟩
 | cons d rest =>
   refine wpAny_mono (st _ _ _ _ b₃ S₃') (fun r s₄ hzz => ?_) fun _ _ x => x; obtain ⟨v, e, h4⟩ := hzz; subst e; refine wpAny_bind (wpAny_mono h4 (fun _ s₅ hzz => ?_) fun _ _ x => x); obtain ⟨P₅, es', l₅, S₅, r₅, st'⟩ := hzz; have S₅ := S₅.perm (swap_perm es' (G x) τ); have hsub : ∀ q ∈ τ, q ∈ es' ++ τ := fun q hq => mem_append_right _ hq; refine wpAny_bind (wpAny_mono (turn d rest x (es' ++ τ) hsub hi P₅ s₅ v S₅ r₅) (fun _ s₆ hzz => ?_) fun _ _ x => x.elim); obtain ⟨P₆, _, σ₆, l₆, S₆, _, q₆⟩ := hzz; refine wpAny_bind (q₆.run S₆ fun P₇ ok ok' σ₇ s₇ l₇ S₇ r₇ q₇ => ?_); cases r₇; have l := ((l₃.trans l₅).trans l₆).trans l₇; have b₇ := ((b₃.trans l₅).trans l₆).trans l₇
   cases ok with
   | false =>
     simp only [Bool.false_eq_true, if_false] at q₇ ⊢; obtain ⟨x', hs, hi'⟩ := q₇; exact wpAny_pure ⟨rfl, rest.length, by simp, rest, x', es', P₇, rfl, l, b₇, S₇.sub hs, st', hi'⟩
   | true =>
     simp only [if_true] at q₇ ⊢; refine hbk _ _ _ _ (q₇.run S₇ fun P₈ _ _ σ₈ s₈ l₈ S₈ r₈ hzz => ?_); obtain ⟨x', hs, hi'⟩ := hzz; exact wpAny_pure ⟨rfl, rest.length, by simp, rest, x', es', P₈, rfl, l.trans l₈, b₇.trans l₈, S₈.sub hs, st', hi'⟩
theorem comp_start {e : Expr} {depth : Nat} {I acc : Value} {cenv : Env} {R : Result -> Shared -> Prop} {s : Shared} (hcomp : IsComp e) (hasync : ((clausesOf e)[depth]?).elim false (·.is_async != 0) = false)
   (hself : ∀ (K : Value -> Shared -> Prop) E, K I s -> wpAny (model C.prog C.w) A (pyIter I) K E s)
   (h : codeAny (model C.prog C.w) A (.compLoop e depth I acc cenv) R s) : codeAny (model C.prog C.w) A (.compStart e depth I acc cenv) R s := by
 have hu : A.under (.compStart e depth I acc cenv) = A := by cases hcomp <;> rfl
 have hq : ∀ I, (Code.compLoop e depth I acc cenv).quiet = true := fun I => by cases hcomp <;> rfl
 have key : ∀ (A : Around) (Pf : Fin -> Shared -> Prop) (E : Value -> Shared -> Prop) s, wpAny (model C.prog C.w) A ((compStart e depth I acc cenv).onRaise (fun x => do noteFrame x cenv; standAt theWindowsPlace)) Pf E s ->
     wpAny (model C.prog C.w) A ((model C.prog C.w).den (.compStart e depth I acc cenv)) Pf E s := by
   intro A Pf E s h; cases hcomp <;> exact h
 refine codeAny_of_tree ?_; rw [hu]; refine key _ _ _ _ (wpAny_notedAt ?_); unfold compStart; rw [hasync]; simp only [Bool.false_eq_true, if_false]; refine wpAny_bind (wpAny_askSetting (wpAny_ite ?_)); split
 . first
     | exact wpAny_bind (wpAny_pure (wpAny_pure (And.intro (hq _) h)))
     | exact wpAny_pure (And.intro (hq _) h)
 . refine wpAny_bind (wpAny_rule ?_); split
   . exact wpAny_bind (wpAny_standAt (wpAny_bind (hself _ _ (wpAny_pure (And.intro (hq _) h)))))
   . exact wpAny_bind (hself _ _ (wpAny_pure (And.intro (hq _) h)))
theorem hbk_plain {body : Sem Unit} : ∀ (K : Fin -> Shared -> Prop) (E : Value -> Shared -> Prop) s k, wpAny (model C.prog C.w) A body (fun _ s' => wpAny (model C.prog C.w) A k K E s') E s -> wpAny (model C.prog C.w) A (body >>= fun _ => k) K E s :=
 fun K E s k h => wpAny_bind h
theorem hbk_inner {e : Expr} {d : Nat} {g : Comprehension} {acc : Value} : ∀ (K : Fin -> Shared -> Prop) (E : Value -> Shared -> Prop) s k, wpAny (model C.prog C.w) A (inner e d g acc env) (fun _ s' => wpAny (model C.prog C.w) A k K E s') E s -> wpAny (model C.prog C.w) A (innerK e d g acc env k) K E s := by
 intro K E s k h
 have e : innerK e d g acc env k = inner e d g acc env >>= fun _ => k := by
   unfold innerK inner; simp only [bind_assoc, pure_bind]
 rw [e]; exact wpAny_bind h
end
end
section
structure CompScope (sc : Scope) : Prop where
 kind : sc.kind = .function
 nd : (sc.names.map (·.1)).Nodup
 nocell : ∀ x ∈ sc.names, x.2 ≠ .cell
 nodbg : ("__debug__" : Str) ∉ sc.names.map (·.1)
 nocls : ("__classdict__" : Str) ∉ sc.names.map (·.1)
theorem lookup_map_kind {f : Str -> NameKind -> NameKind} : ∀ {l : List (Str × NameKind)} {x : Str} {k : NameKind}, l.lookup x = some k -> (l.map fun p => (p.1, f p.1 p.2)).lookup x = some (f x k)
 | [], _, _, h => by simp at h
 | (y, j) :: l, x, k, h => by
   rw [map_cons]; rw [lookup_cons] at h ⊢
   cases hx : x == y with
   | true => rw [hx] at h; cases h; have := beq_iff_eq.mp hx; subst this; rfl
   | false => rw [hx] at h; exact lookup_map_kind h
theorem relabel_names (sc : Scope) (env : Env) : (relabel sc env).names = sc.names.map fun p => (p.1, if (p.2 == .free && env.scope.kind == .function && env.kindOf p.1 == some .cell) then .cell else p.2) := by
 unfold relabel; apply map_congr_left; rintro ⟨n, k⟩ _; dsimp only; split <;> simp_all
section
variable {C : Cx} {A : Around} {σ : St} {env : Env} {pos : Pos} {L : Addr} {names : List (Str × NameKind)} {cells cells' : List (Str × Addr)}
theorem compEnv_is {sc : Scope} (cs : CompScope sc) (hE : EnvIs env L names cells) {cenv : Env} {Lc : Addr} (hsc : cenv.scope = relabel sc env) (hl : cenv.locals = Lc) (hg : cenv.globals = env.globals) (hb : cenv.builtins = env.builtins)
   (hc : ∀ x c, (x, c) ∈ cells' -> cenv.cells.lookup x = some c) : EnvIs cenv Lc sc.names cells' := by
 have key : ∀ x k, (x, k) ∈ sc.names -> cenv.kindOf x = some (if (k == .free && env.scope.kind == .function && env.kindOf x == some .cell) then .cell else k) := fun x k h => by
   unfold Env.kindOf; rw [hsc, relabel_names]
   exact lookup_map_kind (f := fun n k => if (k == .free && env.scope.kind == .function && env.scope.names.lookup n == some .cell) then .cell else k) (lookup_of_mem cs.nd h)
 refine ⟨by rw [hsc]; exact cs.kind, fun x h => by rw [key x _ h]; rfl, fun x h => absurd rfl (cs.nocell _ h), fun x h => ?_, fun x h => by rw [key x _ h]; rfl, cs.nodbg, cs.nocls, hl, by rw [hg]; exact hE.glob, by rw [hb]; exact hE.blt, hc⟩; rw [key x _ h]; split
 . exact .inl rfl
 . exact .inr rfl
theorem closure_is {sc : Scope} (cs : CompScope sc) (hE : EnvIs env L names cells) (hfree : ∀ x, (x, .free) ∈ sc.names -> ∃ c, (x, c) ∈ cells) :
   ∃ cl, closureFor sc env = pure cl /\ ∀ x c, (x, .free) ∈ sc.names -> (x, c) ∈ cells -> cl.lookup x = some c := by
 unfold closureFor
 have gen : ∀ (l : List (Str × NameKind)) (acc : List (Str × Addr)), (l.map (·.1)).Nodup -> (∀ x, (x, .free) ∈ l -> ∃ c, (x, c) ∈ cells) -> (∀ x ∈ l, acc.lookup x.1 = none) ->
     ∃ cl, (forIn l acc fun (x : Str × NameKind) (r : List (Str × Addr)) => if x.2 == .free then (do let a <- cellOf env x.1; pure (.yield ((x.1, a) :: r))) else pure (.yield r) : Sem (List (Str × Addr))) = pure cl /\
       (∀ x c, (x, .free) ∈ l -> (x, c) ∈ cells -> cl.lookup x = some c) /\ ∀ x, x ∉ l.map (·.1) -> cl.lookup x = acc.lookup x := by
   intro l
   induction l with
   | nil => intro acc _ _ _; exact ⟨acc, by rw [List.forIn_nil], fun _ _ h => (nomatch h), fun _ _ => rfl⟩
   | cons p l ih =>
     obtain ⟨n, k⟩ := p; intro acc nd hf hacc; rw [map_cons, nodup_cons] at nd; rw [List.forIn_cons]; by_cases hk : k = .free
     . subst hk; obtain ⟨c, hc⟩ := hf n mem_cons_self; have hcell : cellOf env n = pure c := by unfold cellOf; rw [hE.cells _ _ hc]
       obtain ⟨cl, h1, h2, h3⟩ := ih ((n, c) :: acc) nd.2 (fun x h => hf x (mem_cons_of_mem _ h)) (fun x hx => by
         rw [lookup_cons]
         have : (x.1 == n) = false := beq_eq_false_iff_ne.mpr fun e => nd.1 (e ▸ mem_map_of_mem (f := (·.1)) hx)
         rw [this]; exact hacc x (mem_cons_of_mem _ hx))
       refine ⟨cl, ?_, fun x c' hx hc' => ?_, fun x hx => ?_⟩
       . simp only [beq_self_eq_true, if_true, hcell, pure_bind]; exact h1
       . rcases List.mem_cons.mp hx with e | hx
         . cases e; rw [h3 n nd.1, lookup_cons]; simp only [beq_self_eq_true]; have := hE.cells _ _ hc; rw [hE.cells _ _ hc'] at this; exact this.symm
         . exact h2 x c' hx hc'
       . simp only [map_cons, mem_cons, not_or] at hx; rw [h3 x hx.2, lookup_cons]; have : (x == n) = false := beq_eq_false_iff_ne.mpr hx.1; rw [this]
     . obtain ⟨cl, h1, h2, h3⟩ := ih acc nd.2 (fun x h => hf x (mem_cons_of_mem _ h)) (fun x hx => hacc x (mem_cons_of_mem _ hx)); refine ⟨cl, ?_, fun x c' hx hc' => ?_, fun x hx => ?_⟩
       . have : (k == NameKind.free) = false := beq_eq_false_iff_ne.mpr hk; simp only [this, Bool.false_eq_true, if_false, pure_bind]; exact h1
       . rcases List.mem_cons.mp hx with e | hx
         . cases e; exact absurd rfl hk
         . exact h2 x c' hx hc'
       . simp only [map_cons, mem_cons, not_or] at hx; exact h3 x hx.2
 obtain ⟨cl, h1, h2, _⟩ := gen sc.names [] cs.nd hfree fun _ _ => rfl; refine ⟨cl, ?_, h2⟩
 have e : (forIn sc.names [] fun (x : Str × NameKind) (r : List (Str × Addr)) => match x with
     | (name, kind) => if kind == .free then (do let a <- cellOf env name; pure (.yield ((name, a) :: r))) else pure (.yield r) : Sem (List (Str × Addr))) = pure cl := by
   rw [<- h1]
 show ((forIn sc.names [] fun (x : Str × NameKind) (r : List (Str × Addr)) => match x with
     | (name, kind) => if kind == .free then (do let a <- cellOf env name; pure (.yield ((name, a) :: r))) else pure (.yield r) : Sem (List (Str × Addr))) >>= fun cs => pure cs) = pure cl
 rw [e]; rfl
end
end
section
noncomputable def allNone (m : List (Str × Option AV)) : Prop := ∀ x av, (x, some av) ∉ m
section
variable {C : Cx} {A : Around} {σ : St} {env : Env} {pos : Pos} {L : Addr} {names : List (Str × NameKind)} {cells cells' : List (Str × Addr)}
noncomputable def Core (C : Cx) (A : Around) (e : Expr) (g : Comprehension) (sc : Scope) (cells' : List (Str × Addr)) (m0 : List (Str × Option AV)) (ent0 ent1 : AEnt) (ds : List AV) (σ₁ : St) : Prop :=
 ∀ Lc D cenv P₂ P s es it, EnvIs cenv Lc sc.names cells' -> PLe P₂ P -> Steps C A g.target it P₂ ds es -> Sat C P ((Lc, .ns m0) :: (D, ent0) :: (es ++ σ₁)) s ->
   codeAny (model C.prog C.w) A (.compLoop e 0 it (.ref D) cenv) (fun r s' => r = .ok .next /\ ∃ P' m, PLe P P' /\ Sat C P' ((Lc, .ns m) :: (D, ent1) :: σ₁) s') s
theorem comp_wrap {e : Expr} {sc : Scope} {g : Comprehension} {gs : List Comprehension} {newAcc : Sem Value} {m0 : List (Str × Option AV)} {ent0 : AEnt} {use : Option (Value -> Sem Unit)} (hcomp : IsComp e) (hcl : clausesOf e = g :: gs) (hasync : (g.is_async != 0) = false)
   (cs : CompScope sc) (hE : EnvIs env L names cells) (hfree : ∀ x, (x, .free) ∈ sc.names -> ∃ c, (x, c) ∈ cells) (hc' : ∀ x c, (x, c) ∈ cells' -> (x, .free) ∈ sc.names /\ (x, c) ∈ cells)
   (hm0 : (m0.map (·.1)).Nodup) (hmn : allNone m0) (hs : ∀ x, foldedSetIterable g.iter env x = pure x)
   (hnew : ∀ P σ s (K : Value -> Shared -> Prop) E, Sat C P σ s -> (∀ D s', Sat C P ((D, ent0) :: σ) s' -> K (.ref D) s') -> wpAny (model C.prog C.w) A newAcc K E s)
   {Qu : Value -> Shared -> Prop} {P : Pool} {s : Shared} (S : Sat C P σ s)
   (hiter : EvIter C A env g.target g.iter σ fun ds σ₁ => ∃ ent1, Core C A e g sc cells' m0 ent0 ent1 ds σ₁ /\
     ∀ Lc D P' m s', PLe P P' -> Sat C P' ((Lc, .ns m) :: (D, ent1) :: σ₁) s' -> compPost (model C.prog C.w) A No use Qu (.ref D) Lc (.ok .next) s') :
   wpAny (model C.prog C.w) A (comprehension e sc env pos newAcc false (eval g.iter env) use) Qu No s := by
 obtain ⟨cl, hclos, hclk⟩ := closure_is cs hE hfree; refine wpAny_comprehension_free hcl hs hclos cs.kind (fun x hx hl => by obtain ⟨n, k⟩ := x; cases hl; exact lookup_of_mem cs.nd hx) ?_; refine wpAny_mono (hiter P s S) (fun x s₁ h₁ => wpAny_mono h₁ (fun it s₂ hzz => ?_) fun _ _ x => x.elim) fun _ _ x => x.elim; obtain ⟨P₂, es, ds, σ₁, l₂, S₂, st, sf, ent1, core, fin⟩ := hzz; refine hnew P₂ _ s₂ _ _ S₂ fun D s₃ S₃ => ?_; refine wpAny_newFunctionEnv cs.nocell (fun _ h => nomatch h) (fun h₄ hns hsb => ?_) cs.kind; have hkeep : ∀ b o, s₃.heap.get? b = some o -> h₄.get? b = some o := fun b o e => hsb.extBut b o (ne_of_lt (Heap.lt_size e)) (Heap.get?_push_of_some _ e); have S₄ := S₃.new (e := .ns m0) (a := s₃.heap.objs.size) (Heap.get?_none_of_le (le_refl _)) (s₃.toks + 0) hkeep ⟨hm0, _, hns, fun x av h => absurd h (hmn x av)⟩; have hcE := compEnv_is (cells' := cells') (cenv := { newEnv sc s₃.heap.objs.size env.globals cl env.qual none .none (some env) builtinsNs with scope := relabel sc env }) (Lc := s₃.heap.objs.size) cs hE rfl rfl rfl rfl fun x c h => hclk x c (hc' x c h).1 (hc' x c h).2; refine comp_start hcomp (by rw [hcl]; exact hasync) (fun K E hK => ?_) ?_
 . have S₅ := S₄.perm (σ' := es ++ ((s₃.heap.objs.size, .ns m0) :: (D, ent0) :: σ₁)) (by
     have := swap_perm es [(s₃.heap.objs.size, AEnt.ns m0), (D, ent0)] σ₁; exact this.symm)
   exact sf _ _ _ _ _ (PLe.refl _) S₅ hK
 . refine codeAny_mono (core _ D _ P₂ P₂ _ es it hcE (PLe.refl _) st S₄) fun r s' hzz => ?_; obtain ⟨e, P', m, l', S'⟩ := hzz; subst e; exact fin _ D P' m s' (l₂.trans l') S'
theorem sat_drop_ns {P : Pool} {s : Shared} {Lc : Addr} {m : List (Str × Option AV)} (S : Sat C P ((Lc, .ns m) :: σ) s) : (∃ mm, s.heap.Ns Lc mm) /\ ∀ h', Heap.SameBut Lc s.heap h' -> Sat C P σ { s with heap := h' } := by
 obtain ⟨_, mm, hns, _⟩ := S.ents _ mem_cons_self; refine ⟨⟨mm, hns⟩, fun h' hs => ?_⟩; exact Sat.turnOff (es := [(Lc, .ns m)]) (C := C) (σ := σ) S s.toks fun b o hb e => hs.extBut b o (by simpa using hb) e
theorem freeze_list {P : Pool} {s : Shared} {D : Addr} {ds : List AV} (S : Sat C P ((D, .list ds) :: σ) s) : ∃ P', PLe P P' /\ Sat C P' σ s /\ VR P' (.ref D) (.list ds) := by
 obtain ⟨o, ho, S', l⟩ := S.freeze; obtain ⟨vs, n, h1, h2⟩ := S.ents _ mem_cons_self; rw [h1] at ho; cases ho; exact ⟨_, l, S', .list (addP_self _ _ _) (h2.mono l)⟩
theorem freeze_dict {P : Pool} {s : Shared} {D : Addr} {ds : List (Int × AV)} (S : Sat C P ((D, .dict ds) :: σ) s) : ∃ P', PLe P P' /\ Sat C P' σ s /\ VR P' (.ref D) (.dict ds) := by
 obtain ⟨o, ho, S', l⟩ := S.freeze; obtain ⟨q, o', es, n, h1, h2, h3, h4, h5⟩ := S.ents _ mem_cons_self; rw [h1] at ho; cases ho; exact ⟨_, l, S', .dict (addP_self _ _ _) q h2 h3 (h4.mono l) h5⟩
theorem new_list : ∀ P σ s (K : Value -> Shared -> Prop) E, Sat C P σ s -> (∀ D s', Sat C P ((D, .list []) :: σ) s' -> K (.ref D) s') -> wpAny (model C.prog C.w) A (newList []) K E s := by
 intro P σ s K E S hK; refine wpAny_newObj_type (hK _ _ (S.new (e := .list []) (Heap.get?_none_of_le (le_refl _)) s.toks (fun b o e => Heap.get?_push_of_some _ e) ⟨[], 0, Heap.get?_push_size _ rfl, .nil⟩)) (by show ([] : List Value).toArray.size <= _; simp)
theorem new_dict (hsys : ∃ (b₁ : Addr) (o : Obj), sysModules <= b₁ /\ C.P₀ b₁ = some o) : ∀ P σ s (K : Value -> Shared -> Prop) E, Sat C P σ s -> (∀ D s', Sat C P ((D, .dict []) :: σ) s' -> K (.ref D) s') -> wpAny (model C.prog C.w) A newDict K E s := by
 intro P σ s K E S hK; obtain ⟨b₁, o, hb₁, ho⟩ := hsys
 have hq : (s.heap.objs.size == sysModules) = false := beq_eq_false_iff_ne.mpr fun e => by
   have := Heap.lt_size (S.old _ _ ho); rw [e] at this; exact absurd hb₁ (Nat.not_le.mpr this)
 refine wpAny_newObj_type (hK _ _ (S.new (e := .dict []) (Heap.get?_none_of_le (le_refl _)) s.toks (fun b o e => Heap.get?_push_of_some _ e) ⟨hq, _, [], 0, Heap.get?_push_size _ rfl, ⟨rfl, rfl, rfl⟩, rfl, .nil, by simp⟩)) (by show (#[] : Array DictEntry).size <= _; simp)
theorem ev_listcomp {elt : Expr} {g : Comprehension} {gs : List Comprehension} {sc : Scope} {m0 : List (Str × Option AV)} (hasync : (g.is_async != 0) = false)
   (cs : CompScope sc) (hE : EnvIs env L names cells) (hfree : ∀ x, (x, .free) ∈ sc.names -> ∃ c, (x, c) ∈ cells) (hc' : ∀ x c, (x, c) ∈ cells' -> (x, .free) ∈ sc.names /\ (x, c) ∈ cells)
   (hm0 : (m0.map (·.1)).Nodup) (hmn : allNone m0) (hs : ∀ x, foldedSetIterable g.iter env x = pure x)
   (hiter : EvIter C A env g.target g.iter σ fun ds σ₁ => ∃ out, Core C A (.ListComp elt (g :: gs) sc pos) g sc cells' m0 (.list []) (.list out) ds σ₁ /\ Q (.list out) σ₁) : Ev C A (eval (.ListComp elt (g :: gs) sc pos) env) σ Q := by
 obtain ⟨gt, gi, gf, ga⟩ := g; intro P s S
 have he : eval (.ListComp elt (⟨gt, gi, gf, ga⟩ :: gs) sc pos) env = comprehension (.ListComp elt (⟨gt, gi, gf, ga⟩ :: gs) sc pos) sc env (firstIterPos (⟨gt, gi, gf, ga⟩ :: gs) pos) (newList []) false (eval gi env) := by
   rw [eval_ListComp]; have : firstAsync (⟨gt, gi, gf, ga⟩ :: gs) = false := hasync; rw [this]; rfl
 rw [he]; refine comp_wrap (.list _ _ _ _) rfl hasync cs hE hfree hc' hm0 hmn hs new_list S ?_; refine fun P' s' S' => wpAny_mono (hiter P' s' S') (fun x s₁ h₁ => wpAny_mono h₁ (fun it s₂ hzz => ?_) fun _ _ x => x) fun _ _ x => x; obtain ⟨P₂, es, ds, σ₁, l₂, S₂, st, sf, out, core, q⟩ := hzz; refine ⟨P₂, es, ds, σ₁, l₂, S₂, st, sf, _, core, ?_⟩; intro Lc D P₃ m s₃ l₃ S₃; obtain ⟨⟨mm, hns⟩, hd⟩ := sat_drop_ns S₃; refine ⟨mm, hns, fun h' hs => ?_⟩; obtain ⟨P₄, l₄, S₄, r₄⟩ := freeze_list (hd h' hs); exact ⟨P₄, _, σ₁, l₃.trans l₄, S₄, r₄, q⟩
theorem ev_dictcomp {k v : Expr} {g : Comprehension} {gs : List Comprehension} {sc : Scope} {m0 : List (Str × Option AV)} (hsys : ∃ (b₁ : Addr) (o : Obj), sysModules <= b₁ /\ C.P₀ b₁ = some o) (hasync : (g.is_async != 0) = false)
   (cs : CompScope sc) (hE : EnvIs env L names cells) (hfree : ∀ x, (x, .free) ∈ sc.names -> ∃ c, (x, c) ∈ cells) (hc' : ∀ x c, (x, c) ∈ cells' -> (x, .free) ∈ sc.names /\ (x, c) ∈ cells)
   (hm0 : (m0.map (·.1)).Nodup) (hmn : allNone m0) (hs : ∀ x, foldedSetIterable g.iter env x = pure x)
   (hiter : EvIter C A env g.target g.iter σ fun ds σ₁ => ∃ out, Core C A (.DictComp k v (g :: gs) sc pos) g sc cells' m0 (.dict []) (.dict out) ds σ₁ /\ Q (.dict out) σ₁) : Ev C A (eval (.DictComp k v (g :: gs) sc pos) env) σ Q := by
 obtain ⟨gt, gi, gf, ga⟩ := g; intro P s S
 have he : eval (.DictComp k v (⟨gt, gi, gf, ga⟩ :: gs) sc pos) env = comprehension (.DictComp k v (⟨gt, gi, gf, ga⟩ :: gs) sc pos) sc env (firstIterPos (⟨gt, gi, gf, ga⟩ :: gs) pos) newDict false (eval gi env) := by
   have : firstAsync (⟨gt, gi, gf, ga⟩ :: gs) = false := hasync; show comprehension _ _ _ _ _ (firstAsync (⟨gt, gi, gf, ga⟩ :: gs)) _ _ = _; rw [this]; rfl
 rw [he]; refine comp_wrap (.dict _ _ _ _ _) rfl hasync cs hE hfree hc' hm0 hmn hs (new_dict hsys) S ?_; refine fun P' s' S' => wpAny_mono (hiter P' s' S') (fun x s₁ h₁ => wpAny_mono h₁ (fun it s₂ hzz => ?_) fun _ _ x => x) fun _ _ x => x; obtain ⟨P₂, es, ds, σ₁, l₂, S₂, st, sf, out, core, q⟩ := hzz; refine ⟨P₂, es, ds, σ₁, l₂, S₂, st, sf, _, core, ?_⟩; intro Lc D P₃ m s₃ l₃ S₃; obtain ⟨⟨mm, hns⟩, hd⟩ := sat_drop_ns S₃; refine ⟨mm, hns, fun h' hs => ?_⟩; obtain ⟨P₄, l₄, S₄, r₄⟩ := freeze_dict (hd h' hs); exact ⟨P₄, _, σ₁, l₃.trans l₄, S₄, r₄, q⟩
end
end
section
inductive NsLe : List (Str × Option AV) -> List (Str × Option AV) -> Prop
 | nil : NsLe [] []
 | none {x : Str} {ov : Option AV} {m m' : List (Str × Option AV)} : NsLe m m' -> NsLe ((x, ov) :: m) ((x, Option.none) :: m')
 | some {x : Str} {d : AV} {m m' : List (Str × Option AV)} : NsLe m m' -> NsLe ((x, Option.some d) :: m) ((x, Option.some d) :: m')
theorem NsLe.refl : ∀ m : List (Str × Option AV), NsLe m m
 | [] => .nil
 | (_, Option.none) :: m => .none (NsLe.refl m)
 | (_, Option.some _) :: m => .some (NsLe.refl m)
theorem NsLe.keys {m m' : List (Str × Option AV)} (h : NsLe m m') : m.map (·.1) = m'.map (·.1) := by
 induction h with
 | nil => rfl
 | none _ ih => rw [map_cons, map_cons, ih]
 | some _ ih => rw [map_cons, map_cons, ih]
theorem NsLe.mem {m m' : List (Str × Option AV)} (h : NsLe m m') : ∀ x av, (x, Option.some av) ∈ m' -> (x, Option.some av) ∈ m := by
 induction h with
 | nil => exact fun _ _ h => h
 | none _ ih =>
   intro x av hm; rcases List.mem_cons.mp hm with e | hm
   . cases e
   . exact mem_cons_of_mem _ (ih x av hm)
 | some _ ih =>
   intro x av hm; rcases List.mem_cons.mp hm with e | hm
   . cases e; exact mem_cons_self
   . exact mem_cons_of_mem _ (ih x av hm)
inductive FrameOf (Lc : Addr) (m0 : List (Str × Option AV)) (τ' σ' : St) : Prop
 | intro (m1 : List (Str × Option AV)) (hk : NsLe m1 m0) (e : σ' = (Lc, .ns m1) :: τ')
inductive ItemK (l : List AV) (Lc : Addr) (m0 : List (Str × Option AV)) (τ' : St) (e : AV) (σ' : St) : Prop
 | intro (hf : l = [e]) (fr : FrameOf Lc m0 τ' σ')
inductive PairK (l : List (Int × AV)) (Lc : Addr) (m0 : List (Str × Option AV)) (τ' : St) (a b : AV) (σ' : St) : Prop
 | intro (j : Int) (e : a = .int j) (hf : l = [(j, b)]) (fr : FrameOf Lc m0 τ' σ')
@[reducible] noncomputable def pairK (C : Cx) (A : Around) (env : Env) (v : Expr) (l : List (Int × AV)) (Lc : Addr) (m0 : List (Str × Option AV)) (τ' : St) (a : AV) (σ : St) : Prop := Ev C A (eval v env) σ (PairK l Lc m0 τ' a)
inductive CInv {β : Type} (m0 : List (Str × Option AV)) (ds : List AV) (g : List AV -> β) (rest : List AV) (x : List (Str × Option AV) × β) : Prop
 | intro (hk : NsLe x.1 m0) (pre : List AV) (hds : ds = pre ++ rest) (hout : x.2 = g pre)
section
variable {C : Cx} {A : Around} {σ : St} {env : Env} {pos : Pos} {L : Addr} {names : List (Str × NameKind)} {cells cells' : List (Str × Addr)}
theorem sat_forget {P : Pool} {s : Shared} {Lc : Addr} {m m0 : List (Str × Option AV)} (hk : NsLe m m0) (S : Sat C P ((Lc, .ns m) :: σ) s) : Sat C P ((Lc, .ns m0) :: σ) s := by
 refine ⟨S.base, S.pool, fun p hp => ?_, fun p hp => ?_, S.nd, S.os, S.gens⟩
 . rcases List.mem_cons.mp hp with rfl | hp
   . exact S.off (Lc, .ns m) mem_cons_self
   . exact S.off p (mem_cons_of_mem _ hp)
 . rcases List.mem_cons.mp hp with rfl | hp
   . obtain ⟨nd, mm, hns, hg⟩ := S.ents _ mem_cons_self; exact ⟨hk.keys ▸ nd, mm, hns, fun x av h => hg x av (hk.mem x av h)⟩
   . exact S.ents p (mem_cons_of_mem _ hp)
theorem Op1.forget {α β : Type} {R : Pool -> α -> β -> Prop} {f : Value -> Sem α} {a : AV} {Lc : Addr} {m m0 : List (Str × Option AV)} {Q : β -> St -> Prop} (hk : NsLe m m0) (h : Op1 R C A f a ((Lc, .ns m0) :: σ) Q) : Op1 R C A f a ((Lc, .ns m) :: σ) Q :=
 fun P s v S r => h P s v (sat_forget hk S) r
theorem app_list {P : Pool} {s : Shared} {σ' : St} {D : Addr} {out : List AV} {v : Value} {e : AV} (S : Sat C P σ s) (hu : Upd σ D (.list out) (.list (out ++ [e])) σ') (r : VR P v e) (hsz : out.length <= sizeLine) {K : Value -> Shared -> Prop} {E : Value -> Shared -> Prop}
   (hK : ∀ s', Sat C P σ' s' -> K .none s') : wpAny (model C.prog C.w) A (call (.builtin "list.append") [.ref D, v]) K E s := by
 obtain ⟨vs, n, h1, h2⟩ := S.ents _ hu.mem; refine wpAny_list_append_plain (items := vs.toArray) ⟨n, h1⟩ (fun h' hl hs => ?_) (by simpa [h2.length] using hsz); obtain ⟨n', h3⟩ := hl; exact hK _ (S.upd hu (h' := h') s.toks hs.extBut ⟨vs ++ [v], n', by rw [h3]; simp, h2.append (.cons r .nil)⟩)
theorem fm_snoc {β : Type} {f : AV -> List β} (pre : List AV) (d : AV) : (pre ++ [d]).flatMap f = pre.flatMap f ++ f d := by rw [flatMap_append, flatMap_cons, flatMap_nil, append_nil]
theorem fm_le {β : Type} {f : AV -> List β} {ds pre rest : List AV} {d : AV} {n : Nat} (hds : ds = pre ++ d :: rest) (h : (ds.flatMap f).length <= n) : (pre.flatMap f).length + (f d).length <= n := by
 rw [hds, flatMap_append, length_append, flatMap_cons, length_append, <- add_assoc] at h; exact le_trans (le_add_right _ _) h
theorem if_mono {b : Bool} {p q p' q' : Prop} (h : if b then p else q) (hp : p -> p') (hq : q -> q') : if b then p' else q' := by
 cases b with
 | true => exact hp h
 | false => exact hq h
theorem mem_split {ds pre rest : List AV} {d : AV} (hds : ds = pre ++ d :: rest) : d ∈ ds := hds ▸ mem_append_right _ (.head _)
theorem turn_of {β : Type} (ent : β -> AEnt) (g : List AV -> β) {m0 : List (Str × Option AV)} {ds : List AV} {Lc D : Addr} {cenv : Env} {t : Expr} {ifs : List Expr} {body : Sem Unit} {τ : St}
   (h : ∀ pre d rest τ', ds = pre ++ d :: rest -> (∀ q ∈ τ, q ∈ τ') -> Op1 RU C A (assign t cenv) d ((Lc, .ns m0) :: (D, ent (g pre)) :: τ') fun _ σa => Eb C A (testTree cenv ifs) σa fun ok σb =>
     if ok then Eu C A body σb fun _ => FrameOf Lc m0 ((D, ent (g (pre ++ [d]))) :: τ') else FrameOf Lc m0 ((D, ent (g (pre ++ [d]))) :: τ') σb)
   (d : AV) (rest : List AV) (x : List (Str × Option AV) × β) (τ' : St) (hsub : ∀ q ∈ τ, q ∈ τ') (hi : CInv m0 ds g (d :: rest) x) :
   Op1 RU C A (assign t cenv) d ([(Lc, AEnt.ns x.1), (D, ent x.2)] ++ τ') fun _ σ₁ => Eb C A (testTree cenv ifs) σ₁ fun ok σ₂ =>
     if ok then Eu C A body σ₂ fun _ => CompK (fun x : List (Str × Option AV) × β => [(Lc, AEnt.ns x.1), (D, ent x.2)]) (CInv m0 ds g) rest τ' else CompK (fun x : List (Str × Option AV) × β => [(Lc, AEnt.ns x.1), (D, ent x.2)]) (CInv m0 ds g) rest τ' σ₂ := by
 obtain ⟨hk, pre, hds, hout⟩ := hi; rw [hout]; refine Op1.forget hk ?_; refine (h pre d rest τ' hds hsub).mono fun _ σa ha => ha.mono fun ok σb hb => ?_
 have key : ∀ σ, FrameOf Lc m0 ((D, ent (g (pre ++ [d]))) :: τ') σ -> CompK (fun x : List (Str × Option AV) × β => [(Lc, AEnt.ns x.1), (D, ent x.2)]) (CInv m0 ds g) rest τ' σ := fun σ hf => by
   obtain ⟨m1, hk1, e⟩ := hf; exact ⟨(m1, _), e ▸ List.Sublist.refl _, hk1, pre ++ [d], hds.trans (List.append_cons ..), rfl⟩
 exact if_mono hb (fun hb => hb.mono fun _ σ hf => key σ hf) (key _)
theorem emit_list {elt : Expr} {Lc D : Addr} {cenv : Env} {m0 : List (Str × Option AV)} {l out : List AV} {τ' σb : St} {ok : Bool} (hb : if ok then Ev C A (eval elt cenv) σb (ItemK l Lc m0 ((D, .list out) :: τ')) else l = [] /\ FrameOf Lc m0 ((D, .list out) :: τ') σb) (hl : out.length <= sizeLine) :
   if ok then Eu C A (emitL elt (.ref D) cenv) σb fun _ => FrameOf Lc m0 ((D, .list (out ++ l)) :: τ') else FrameOf Lc m0 ((D, .list (out ++ l)) :: τ') σb := by
 refine if_mono hb (fun hb P s S => ?_) fun hb => ?_
 . refine wpAny_bind (hb.run S fun P₁ v e σc s₁ l₁ S₁ r₁ hzz => ?_); obtain ⟨hf, m1, hk1, e1⟩ := hzz; subst e1; rw [hf]; exact wpAny_bind (app_list S₁ (.there .here) r₁ hl fun s₂ S₂ => wpAny_pure ⟨P₁, (), _, l₁, S₂, trivial, m1, hk1, rfl⟩)
 . rw [hb.1, append_nil]; exact hb.2
theorem core_L1 {elt t i : Expr} {ifs : List Expr} {sc : Scope} {p : Pos} {m0 : List (Str × Option AV)} {ds : List AV} {σ₁ : St} (f : AV -> List AV) (hsz : (ds.flatMap f).length <= sizeLine)
   (body : ∀ d ∈ ds, ∀ Lc cenv τ', (∀ q ∈ σ₁, q ∈ τ') -> EnvIs cenv Lc sc.names cells' -> Op1 RU C A (assign t cenv) d ((Lc, .ns m0) :: τ') fun _ σa => Eb C A (testTree cenv ifs) σa fun ok σb =>
     if ok then Ev C A (eval elt cenv) σb (ItemK (f d) Lc m0 τ') else f d = [] /\ FrameOf Lc m0 τ' σb) :
   Core C A (.ListComp elt [⟨t, i, ifs, 0⟩] sc p) ⟨t, i, ifs, 0⟩ sc cells' m0 (.list []) (.list (ds.flatMap f)) ds σ₁ := by
 intro Lc D cenv P₂ P s es it hE l st S
 refine codeAny_mono (comp_loop (.list _ _ _ _) (turn_L1 ..) hbk_plain _ (CInv m0 ds (·.flatMap f)) (τ := σ₁) (turn_of AEnt.list (·.flatMap f) (D := D) (Lc := Lc) fun pre d rest τ' hds hsub =>
   (body d (mem_split hds) Lc cenv _ (fun q hq => mem_cons_of_mem _ (hsub q hq)) hE).mono fun _ σa ha => ha.mono fun ok σb hb => by
     rw [fm_snoc]; exact emit_list hb (le_trans (le_add_right _ _) (fm_le hds hsz))) (x := (m0, [])) l S st ⟨NsLe.refl _, [], rfl, rfl⟩) fun r s' hzz => ?_
 obtain ⟨e, P', x, l', S', hk, pre, hds, hout⟩ := hzz; rw [append_nil] at hds; rw [hout, <- hds] at S'; exact ⟨e, P', x.1, l', S'⟩
theorem put_dict {P : Pool} {s : Shared} {σ' : St} {D : Addr} {out : List (Int × AV)} {k v : Value} {i : Int} {e : AV} (S : Sat C P σ s) (hu : Upd σ D (.dict out) (.dict (gPut out i e)) σ') (rk : VR P k (.int i)) (r : VR P v e) (hsz : out.length <= sizeLine) {K : Unit -> Shared -> Prop} {E : Value -> Shared -> Prop}
   (hK : ∀ s', Sat C P σ' s' -> K () s') : wpAny (model C.prog C.w) A (dictSet D k v) K E s := by
 obtain ⟨t, rfl⟩ := rk.int_inv; obtain ⟨a', kvs, e', q, g0, g1, g3⟩ := (RdD.led hu.mem).get S (VR.val (.ref D)); obtain rfl := Value.ref.inj e'; refine wpAny_dictSet_pairs (knd := intKind C.prog C.w) (k := i) (by show (_ == _) = true; simp) g0 (fun h' hd hs => ?_) (by rw [g1.length]; exact hsz); obtain ⟨o, es, ep, e1, e2, e3, e4, e5, e6⟩ := hd; exact hK _ (S.upd hu (h' := h') (s.toks + 1) hs.extBut ⟨q, o, es.toList, ep, e1, e2, by rw [e3], VRd.of_pairs (fun e he => e4 e (by simpa using he)) e5 (g1.stored r (kvs := kvs) g3), gPut_nd g3⟩)
noncomputable def putAll : List (Int × AV) -> List (Int × AV) -> List (Int × AV)
 | out, [] => out
 | out, (k, d) :: r => putAll (gPut out k d) r
theorem putAll_append : ∀ (a b out : List (Int × AV)), putAll out (a ++ b) = putAll (putAll out a) b
 | [], _, _ => rfl
 | (k, d) :: a, b, out => putAll_append a b (gPut out k d)
theorem putAll_length : ∀ (a out : List (Int × AV)), (putAll out a).length <= out.length + a.length
 | [], _ => le_refl _
 | (k, d) :: a, out => by
   have h1 := putAll_length a (gPut out k d); have h2 := gPut_len (l := out) (k := k) (d := d); show (putAll (gPut out k d) a).length <= out.length + (a.length + 1); exact le_trans h1 (le_trans (add_le_add_right h2 _) (le_of_eq (add_right_comm _ _ _)))
theorem emit_dict {k v : Expr} {Lc D : Addr} {cenv : Env} {m0 : List (Str × Option AV)} {l out : List (Int × AV)} {τ' σb : St} {ok : Bool} (hb : if ok then Ev C A (eval k cenv) σb (pairK C A cenv v l Lc m0 ((D, .dict out) :: τ')) else l = [] /\ FrameOf Lc m0 ((D, .dict out) :: τ') σb) (hl : out.length <= sizeLine) :
   if ok then Eu C A (emitD k v D cenv) σb fun _ => FrameOf Lc m0 ((D, .dict (putAll out l)) :: τ') else FrameOf Lc m0 ((D, .dict (putAll out l)) :: τ') σb := by
 refine if_mono hb (fun hb P s S => ?_) fun hb => ?_
 . unfold emitD; refine wpAny_bind (hb.run S fun P₁ v₁ a σc s₁ l₁ S₁ r₁ hb₁ => wpAny_bind (wpAny_holding (hb₁.run S₁ fun P₂ v₂ b σd s₂ l₂ S₂ r₂ hzz => ?_))); obtain ⟨j, e0, hf, m1, hk1, e1⟩ := hzz; subst e1; subst e0; rw [hf]; refine wpAny_bind (wpAny_standAt (wpAny_holding (put_dict S₂ (.there .here) (r₁.mono l₂) r₂ hl fun s₃ S₃ => ?_))); exact ⟨P₂, (), _, l₁.trans l₂, S₃, trivial, m1, hk1, rfl⟩
 . rw [hb.1]; exact hb.2
theorem pa_snoc {f : AV -> List (Int × AV)} (out : List (Int × AV)) (pre : List AV) (d : AV) : putAll out ((pre ++ [d]).flatMap f) = putAll (putAll out (pre.flatMap f)) (f d) := by rw [fm_snoc, putAll_append]
theorem core_D1 {k v t i : Expr} {ifs : List Expr} {sc : Scope} {p : Pos} {m0 : List (Str × Option AV)} {ds : List AV} {σ₁ : St} (f : AV -> List (Int × AV)) (hsz : (ds.flatMap f).length <= sizeLine)
   (body : ∀ d ∈ ds, ∀ Lc cenv τ', (∀ q ∈ σ₁, q ∈ τ') -> EnvIs cenv Lc sc.names cells' -> Op1 RU C A (assign t cenv) d ((Lc, .ns m0) :: τ') fun _ σa => Eb C A (testTree cenv ifs) σa fun ok σb =>
     if ok then Ev C A (eval k cenv) σb (pairK C A cenv v (f d) Lc m0 τ') else f d = [] /\ FrameOf Lc m0 τ' σb) :
   Core C A (.DictComp k v [⟨t, i, ifs, 0⟩] sc p) ⟨t, i, ifs, 0⟩ sc cells' m0 (.dict []) (.dict (putAll [] (ds.flatMap f))) ds σ₁ := by
 intro Lc D cenv P₂ P s es it hE l st S
 refine codeAny_mono (comp_loop (.dict _ _ _ _ _) (turn_D1 ..) hbk_plain _ (CInv m0 ds fun pre => putAll [] (pre.flatMap f)) (τ := σ₁) (turn_of AEnt.dict (fun pre => putAll [] (pre.flatMap f)) (D := D) (Lc := Lc) fun pre d rest τ' hds hsub =>
   (body d (mem_split hds) Lc cenv _ (fun q hq => mem_cons_of_mem _ (hsub q hq)) hE).mono fun _ σa ha => ha.mono fun ok σb hb => by
     rw [pa_snoc]; refine emit_dict hb ?_; have h1 := putAll_length (pre.flatMap f) []; rw [length_nil, zero_add] at h1; exact le_trans h1 (le_trans (le_add_right _ _) (fm_le hds hsz))) (x := (m0, [])) l S st ⟨NsLe.refl _, [], rfl, rfl⟩) fun r s' hzz => ?_
 obtain ⟨e, P', x, l', S', hk, pre, hds, hout⟩ := hzz; rw [append_nil] at hds; rw [hout, <- hds] at S'; exact ⟨e, P', x.1, l', S'⟩
end
end
section
theorem NsLe.trans {a b c : List (Str × Option AV)} (h : NsLe a b) (h' : NsLe b c) : NsLe a c := by
 induction h' generalizing a with
 | nil => cases h; exact .nil
 | none _ ih =>
   cases h with
   | none h => exact .none (ih h)
   | some h => exact .none (ih h)
 | some _ ih =>
   cases h with
   | some h => exact .some (ih h)
section
variable {C : Cx} {A : Around} {σ : St} {env : Env} {pos : Pos} {L : Addr} {names : List (Str × NameKind)} {cells cells' : List (Str × Addr)}
inductive InnO (C : Cx) (P : Pool) (Q : Unit -> St -> Prop) (r : Result) (s' : Shared) : Prop
 | intro (e : r = .ok .next) (P' : Pool) (σ' : St) (l : PLe P P') (S : Sat C P' σ' s') (q : Q () σ')
theorem run_inner {e : Expr} {g : Comprehension} {acc : Value} {cenv : Env} {Q : Unit -> St -> Prop} (hcomp : IsComp e) (hasync : ((clausesOf e)[1]?).elim false (·.is_async != 0) = false) (hs : ∀ x, foldedSetIterable g.iter cenv x = pure x)
   (h : EvIter C A cenv g.target g.iter σ fun ds σc => ∀ P₂ P s es it, PLe P₂ P -> Steps C A g.target it P₂ ds es -> Sat C P (es ++ σc) s ->
     codeAny (model C.prog C.w) A (.compLoop e 1 it acc cenv) (InnO C P Q) s) : Eu C A (inner e 1 g acc cenv) σ Q := by
 intro P s S; unfold inner; refine wpAny_bind (wpAny_mono (h P s S) (fun x s₁ h₁ => wpAny_bind (wpAny_standAt (wpAny_bind (wpAny_of_eq (hs x) ?_)))) fun _ _ x => x); refine wpAny_bind (wpAny_holding (wpAny_mono h₁ (fun it s₂ hzz => ?_) fun _ _ x => x)); obtain ⟨P₂, es, ds, σc, l₂, S₂, st, sf, hq⟩ := hzz; refine wpAny_bind (wpAny_runOwn ?_); refine comp_start (C := C) (A := A) hcomp hasync (fun K E hK => sf _ _ _ _ _ (PLe.refl _) S₂ hK) ?_; refine codeAny_mono (hq P₂ P₂ s₂ es it (PLe.refl _) st S₂) fun r s' hzz => ?_; obtain ⟨e, P', σ', l', S', q⟩ := hzz; subst e; exact wpAny_pure ⟨P', (), σ', l₂.trans l', S', trivial, q⟩
inductive InnL (C : Cx) (A : Around) (cenv : Env) (t' : Expr) (ifs' : List Expr) (elt : Expr) (σ₁ τ' : St) (Lc : Addr) (m0 : List (Str × Option AV)) (fd : List AV) (ds' : List AV) (σc : St) : Prop
 | intro (m1 : List (Str × Option AV)) (f' : AV -> List AV) (hk : NsLe m1 m0) (e : σc = (Lc, .ns m1) :: τ') (hf : fd = ds'.flatMap f')
     (hb : ∀ d' ∈ ds', ∀ τ'', (∀ q ∈ σ₁, q ∈ τ'') -> Op1 RU C A (assign t' cenv) d' ((Lc, .ns m1) :: τ'') fun _ σd => Eb C A (testTree cenv ifs') σd fun ok' σe =>
       if ok' then Ev C A (eval elt cenv) σe (ItemK (f' d') Lc m1 τ'') else f' d' = [] /\ FrameOf Lc m1 τ'' σe)
theorem inner_L {elt : Expr} {t i t' i' : Expr} {ifs ifs' : List Expr} {sc : Scope} {p : Pos} {m0 : List (Str × Option AV)} {σ₁ σb τ' : St} {Lc D : Addr} {cenv : Env} {fd out : List AV} (hsz : out.length + fd.length <= sizeLine)
   (hs' : ∀ cenv x, foldedSetIterable i' cenv x = pure x) (hsub : ∀ q ∈ σ₁, q ∈ τ') (hb : EvIter C A cenv t' i' σb (InnL C A cenv t' ifs' elt σ₁ ((D, .list out) :: τ') Lc m0 fd)) :
   Eu C A (inner (.ListComp elt [⟨t, i, ifs, 0⟩, ⟨t', i', ifs', 0⟩] sc p) 1 ⟨t', i', ifs', 0⟩ (.ref D) cenv) σb fun _ => FrameOf Lc m0 ((D, .list (out ++ fd)) :: τ') := by
 refine run_inner (.list _ _ _ _) rfl (hs' cenv) ?_; refine fun P s S => wpAny_mono (hb P s S) (fun x s₁ h₁ => wpAny_mono h₁ (fun it s₂ hzz => ?_) fun _ _ x => x) fun _ _ x => x; obtain ⟨P₂, es, ds', σc, l₂, S₂, st, sf, m1, f', hk1, e1, hf, hbody⟩ := hzz; refine ⟨P₂, es, ds', σc, l₂, S₂, st, sf, ?_⟩; subst e1; intro P₃ P₄ s₃ es₃ it₃ l₃ st₃ S₃; have S₃' := S₃.perm (σ' := [(Lc, AEnt.ns m1), (D, .list out)] ++ (es₃ ++ τ')) (swap_perm es₃ [(Lc, AEnt.ns m1), (D, .list out)] τ')
 refine codeAny_mono (comp_loop (depth := 1) (.list _ _ _ _) (turn_L21 ..) hbk_plain _ (CInv m1 ds' fun pre => out ++ pre.flatMap f') (τ := τ') (turn_of AEnt.list (fun pre => out ++ pre.flatMap f') (D := D) (Lc := Lc) fun pre d' rest τ'' hds hsub' =>
   (hbody d' (mem_split hds) _ (fun q hq => mem_cons_of_mem _ (hsub' q (hsub q hq)))).mono fun _ σa ha => ha.mono fun ok σb hb => by
     rw [fm_snoc, <- append_assoc]; refine emit_list hb ?_; have h1 := fm_le (f := f') hds (le_refl _); rw [<- hf] at h1; rw [length_append]; exact le_trans (add_le_add_left (le_trans (le_add_right _ _) h1) _) hsz) (x := (m1, out)) l₃ S₃' st₃ ⟨NsLe.refl _, [], rfl, (append_nil _).symm⟩) fun r s' hzz => ?_
 obtain ⟨e, P', x, l', S', hk', pre, hds, hout⟩ := hzz; rw [append_nil] at hds; rw [hout, <- hds, <- hf] at S'; exact ⟨e, P', _, l', S', _, hk'.trans hk1, rfl⟩
theorem core_L2 {elt : Expr} {t i t' i' : Expr} {ifs ifs' : List Expr} {sc : Scope} {p : Pos} {m0 : List (Str × Option AV)} {ds : List AV} {σ₁ : St} (f : AV -> List AV) (hsz : (ds.flatMap f).length <= sizeLine)
   (hs' : ∀ cenv x, foldedSetIterable i' cenv x = pure x)
   (body : ∀ d ∈ ds, ∀ Lc cenv τ', (∀ q ∈ σ₁, q ∈ τ') -> EnvIs cenv Lc sc.names cells' -> Op1 RU C A (assign t cenv) d ((Lc, .ns m0) :: τ') fun _ σa => Eb C A (testTree cenv ifs) σa fun ok σb =>
     if ok then EvIter C A cenv t' i' σb (InnL C A cenv t' ifs' elt σ₁ τ' Lc m0 (f d)) else f d = [] /\ FrameOf Lc m0 τ' σb) :
   Core C A (.ListComp elt [⟨t, i, ifs, 0⟩, ⟨t', i', ifs', 0⟩] sc p) ⟨t, i, ifs, 0⟩ sc cells' m0 (.list []) (.list (ds.flatMap f)) ds σ₁ := by
 intro Lc D cenv P₂ P s es it hE l st S
 refine codeAny_mono (comp_loop (body := inner (.ListComp elt [⟨t, i, ifs, 0⟩, ⟨t', i', ifs', 0⟩] sc p) 1 ⟨t', i', ifs', 0⟩ (.ref D) cenv) (.list _ _ _ _) (turn_L20 ..) hbk_inner _ (CInv m0 ds fun pre => pre.flatMap f) (τ := σ₁) (turn_of AEnt.list (fun pre => pre.flatMap f) (D := D) (Lc := Lc) fun pre d rest τ' hds hsub =>
   (body d (mem_split hds) Lc cenv _ (fun q hq => mem_cons_of_mem _ (hsub q hq)) hE).mono fun _ σa ha => ha.mono fun ok σb hb => by
     rw [fm_snoc]; exact if_mono hb (fun hb => inner_L (fm_le hds hsz) hs' hsub hb) fun hb => by rw [hb.1, append_nil]; exact hb.2) (x := (m0, [])) l S st ⟨NsLe.refl _, [], rfl, rfl⟩) fun r s' hzz => ?_
 obtain ⟨e, P', x, l', S', hk, pre, hds, hout⟩ := hzz; rw [append_nil] at hds; rw [hout, <- hds] at S'; exact ⟨e, P', x.1, l', S'⟩
inductive InnD (C : Cx) (A : Around) (cenv : Env) (t' : Expr) (ifs' : List Expr) (k v : Expr) (σ₁ τ' : St) (Lc : Addr) (m0 : List (Str × Option AV)) (fd : List (Int × AV)) (ds' : List AV) (σc : St) : Prop
 | intro (m1 : List (Str × Option AV)) (f' : AV -> List (Int × AV)) (hk : NsLe m1 m0) (e : σc = (Lc, .ns m1) :: τ') (hf : fd = ds'.flatMap f')
     (hb : ∀ d' ∈ ds', ∀ τ'', (∀ q ∈ σ₁, q ∈ τ'') -> Op1 RU C A (assign t' cenv) d' ((Lc, .ns m1) :: τ'') fun _ σd => Eb C A (testTree cenv ifs') σd fun ok' σe =>
       if ok' then Ev C A (eval k cenv) σe (pairK C A cenv v (f' d') Lc m1 τ'') else f' d' = [] /\ FrameOf Lc m1 τ'' σe)
theorem inner_D {k v : Expr} {t i t' i' : Expr} {ifs ifs' : List Expr} {sc : Scope} {p : Pos} {m0 : List (Str × Option AV)} {σ₁ σb τ' : St} {Lc D : Addr} {cenv : Env} {fd out : List (Int × AV)} (hsz : out.length + fd.length <= sizeLine)
   (hs' : ∀ cenv x, foldedSetIterable i' cenv x = pure x) (hsub : ∀ q ∈ σ₁, q ∈ τ') (hb : EvIter C A cenv t' i' σb (InnD C A cenv t' ifs' k v σ₁ ((D, .dict out) :: τ') Lc m0 fd)) :
   Eu C A (inner (.DictComp k v [⟨t, i, ifs, 0⟩, ⟨t', i', ifs', 0⟩] sc p) 1 ⟨t', i', ifs', 0⟩ (.ref D) cenv) σb fun _ => FrameOf Lc m0 ((D, .dict (putAll out (fd))) :: τ') := by
 refine run_inner (.dict _ _ _ _ _) rfl (hs' cenv) ?_; refine fun P s S => wpAny_mono (hb P s S) (fun x s₁ h₁ => wpAny_mono h₁ (fun it s₂ hzz => ?_) fun _ _ x => x) fun _ _ x => x; obtain ⟨P₂, es, ds', σc, l₂, S₂, st, sf, m1, f', hk1, e1, hf, hbody⟩ := hzz; refine ⟨P₂, es, ds', σc, l₂, S₂, st, sf, ?_⟩; subst e1; intro P₃ P₄ s₃ es₃ it₃ l₃ st₃ S₃; have S₃' := S₃.perm (σ' := [(Lc, AEnt.ns m1), (D, .dict out)] ++ (es₃ ++ τ')) (swap_perm es₃ [(Lc, AEnt.ns m1), (D, .dict out)] τ')
 refine codeAny_mono (comp_loop (depth := 1) (.dict _ _ _ _ _) (turn_D21 ..) hbk_plain _ (CInv m1 ds' fun pre => putAll out (pre.flatMap f')) (τ := τ') (turn_of AEnt.dict (fun pre => putAll out (pre.flatMap f')) (D := D) (Lc := Lc) fun pre d' rest τ'' hds hsub' =>
   (hbody d' (mem_split hds) _ (fun q hq => mem_cons_of_mem _ (hsub' q (hsub q hq)))).mono fun _ σa ha => ha.mono fun ok σb hb => by
     rw [pa_snoc]; refine emit_dict hb ?_; have h1 := fm_le (f := f') hds (le_refl _); rw [<- hf] at h1; exact le_trans (putAll_length (pre.flatMap f') out) (le_trans (add_le_add_left (le_trans (le_add_right _ _) h1) _) hsz)) (x := (m1, out)) l₃ S₃' st₃ ⟨NsLe.refl _, [], rfl, rfl⟩) fun r s' hzz => ?_
 obtain ⟨e, P', x, l', S', hk', pre, hds, hout⟩ := hzz; rw [append_nil] at hds; rw [hout, <- hds, <- hf] at S'; exact ⟨e, P', _, l', S', _, hk'.trans hk1, rfl⟩
theorem core_D2 {k v : Expr} {t i t' i' : Expr} {ifs ifs' : List Expr} {sc : Scope} {p : Pos} {m0 : List (Str × Option AV)} {ds : List AV} {σ₁ : St} (f : AV -> List (Int × AV)) (hsz : (ds.flatMap f).length <= sizeLine)
   (hs' : ∀ cenv x, foldedSetIterable i' cenv x = pure x)
   (body : ∀ d ∈ ds, ∀ Lc cenv τ', (∀ q ∈ σ₁, q ∈ τ') -> EnvIs cenv Lc sc.names cells' -> Op1 RU C A (assign t cenv) d ((Lc, .ns m0) :: τ') fun _ σa => Eb C A (testTree cenv ifs) σa fun ok σb =>
     if ok then EvIter C A cenv t' i' σb (InnD C A cenv t' ifs' k v σ₁ τ' Lc m0 (f d)) else f d = [] /\ FrameOf Lc m0 τ' σb) :
   Core C A (.DictComp k v [⟨t, i, ifs, 0⟩, ⟨t', i', ifs', 0⟩] sc p) ⟨t, i, ifs, 0⟩ sc cells' m0 (.dict []) (.dict (putAll [] (ds.flatMap f))) ds σ₁ := by
 intro Lc D cenv P₂ P s es it hE l st S
 refine codeAny_mono (comp_loop (body := inner (.DictComp k v [⟨t, i, ifs, 0⟩, ⟨t', i', ifs', 0⟩] sc p) 1 ⟨t', i', ifs', 0⟩ (.ref D) cenv) (.dict _ _ _ _ _) (turn_D20 ..) hbk_inner _ (CInv m0 ds fun pre => putAll [] (pre.flatMap f)) (τ := σ₁) (turn_of AEnt.dict (fun pre => putAll [] (pre.flatMap f)) (D := D) (Lc := Lc) fun pre d rest τ' hds hsub =>
   (body d (mem_split hds) Lc cenv _ (fun q hq => mem_cons_of_mem _ (hsub q hq)) hE).mono fun _ σa ha => ha.mono fun ok σb hb => by
     rw [pa_snoc]; exact if_mono hb (fun hb => inner_D ((by have h1 := fm_le hds hsz; have h2 := putAll_length (pre.flatMap f) []; rw [length_nil, zero_add] at h2; exact le_trans (add_le_add_right h2 _) h1)) hs' hsub hb) fun hb => by rw [hb.1]; exact hb.2) (x := (m0, [])) l S st ⟨NsLe.refl _, [], rfl, rfl⟩) fun r s' hzz => ?_
 obtain ⟨e, P', x, l', S', hk, pre, hds, hout⟩ := hzz; rw [append_nil] at hds; rw [hout, <- hds] at S'; exact ⟨e, P', x.1, l', S'⟩
end
end
section
section
variable {C : Cx} {A : Around} {σ : St} {env : Env} {pos pos' spos : Pos} {L : Addr} {names : List (Str × NameKind)} {cells cells' : List (Str × Addr)}
theorem swaps_cell (hE : EnvIs env L names cells) {y : Str} (hy : (y, .cell) ∈ names) {value : Expr} {line : Nat} (hv : (∃ a b c d, value = .ListComp a b c d) \/ (∃ a b c d e, value = .DictComp a b c d e)) : swapsWithSole [.Name y pos'] value line env = pure false := by
 have hk := hE.isCell y hy; rcases hv with ⟨a, b, c, d, rfl⟩ | ⟨a, b, c, d, e, rfl⟩
 . show (pure (env.blockKind == .function && env.kindOf y == some .local && _ && _) : Sem Bool) = pure false; rw [hk]; have : (some NameKind.cell == some NameKind.local) = false := rfl; rw [this]; simp
 . show (pure (env.blockKind == .function && env.kindOf y == some .local && _ && _) : Sem Bool) = pure false; rw [hk]; have : (some NameKind.cell == some NameKind.local) = false := rfl; rw [this]; simp
theorem blockKind_fn (hE : EnvIs env L names cells) : env.blockKind = .function := by
 unfold Env.blockKind; rw [hE.kind]; rfl
theorem ex_assign_lc {elt : Expr} {y : Str} {g : Comprehension} {gs : List Comprehension} {sc : Scope} {m0 : List (Str × Option AV)} {Q : AFlow -> St -> Prop} (hasync : (g.is_async != 0) = false)
   (cs : CompScope sc) (hE : EnvIs env L names cells) (hfree : ∀ x, (x, .free) ∈ sc.names -> ∃ c, (x, c) ∈ cells) (hc' : ∀ x c, (x, c) ∈ cells' -> (x, .free) ∈ sc.names /\ (x, c) ∈ cells)
   (hm0 : (m0.map (·.1)).Nodup) (hmn : allNone m0) (hs : ∀ x, foldedSetIterable g.iter env x = pure x)
   (hy : (y, .local) ∈ names) (hpos : (pos'.line == pos.line) = true) (hnm : (sc.names.any fun (n, k) => n == y && (k == .local || k == .cell)) = false)
   (hiter : EvIter C A env g.target g.iter σ fun ds σ₁ => ∃ out, Core C A (.ListComp elt (g :: gs) sc pos) g sc cells' m0 (.list []) (.list out) ds σ₁ /\
     ∃ m m' σ₂, SetM m y (.list out) m' /\ Upd σ₁ L (.ns m) (.ns m') σ₂ /\ Q .next σ₂) : Ef C A (exec (.Assign [.Name y pos'] (.ListComp elt (g :: gs) sc pos) spos) env) σ Q := by
 obtain ⟨gt, gi, gf, ga⟩ := g; intro P s S
 have hsw : swapsWith (.ListComp elt (⟨gt, gi, gf, ga⟩ :: gs) sc pos) (some (.Name y pos')) spos.line env = pure true := by
   show (pure (env.blockKind == .function && env.kindOf y == some .local && (pos'.line == pos.line) && !(sc.names.any fun (n, k) => n == y && (k == .local || k == .cell))) : Sem Bool) = pure true; rw [blockKind_fn hE, hE.isLoc y hy, hpos, hnm]; rfl
 rw [exec_Assign_Name_used _ _ _ _ hsw]; refine wpAny_bind (wpAny_standAt (wpAny_bind ?_)); have ha : firstAsync (⟨gt, gi, gf, ga⟩ :: gs) = false := hasync
 show wpAny _ A (do let _ <- comprehension (.ListComp elt (⟨gt, gi, gf, ga⟩ :: gs) sc pos) sc env _ (newList []) (firstAsync (⟨gt, gi, gf, ga⟩ :: gs)) (eval gi env) (some (assign (.Name y pos') env))) _ _ s
 rw [ha]
 refine wpAny_bind (wpAny_mono (comp_wrap (Qu := fun _ s' => Post FR C P Q .next s') (.list _ _ _ _) rfl hasync cs hE hfree hc' hm0 hmn hs new_list S ?_) (fun _ s' hq => wpAny_pure (wpAny_pure hq)) fun _ _ e => e)
 refine fun P' s' S' => wpAny_mono (hiter P' s' S') (fun x s₁ h₁ => wpAny_mono h₁ (fun it s₂ hzz => ?_) fun _ _ x => x) fun _ _ x => x; obtain ⟨P₂, es, ds, σ₁, l₂, S₂, st, sf, out, core, q⟩ := hzz; refine ⟨P₂, es, ds, σ₁, l₂, S₂, st, sf, _, core, ?_⟩; intro Lc D P₃ m s₃ l₃ S₃; obtain ⟨mm, m', σ₂, hset, hupd, hq⟩ := q; obtain ⟨P₄, l₄, S₄, r₄⟩ := freeze_list (S₃.perm (σ' := (D, .list out) :: (Lc, .ns m) :: σ₁) (List.Perm.swap _ _ _)); show wpAny _ A (assign (.Name y pos') env (.ref D)) _ _ _; have st' := as_name (C := C) (pos := pos') (store_loc (A := A) (Q := fun _ σ => σ = (Lc, .ns m) :: σ₂) hE hy hset (.there hupd) rfl); refine wpAny_mono (st' P₄ s₃ _ S₄ r₄) (fun _ s₅ hzz => ?_) fun _ _ x => x; obtain ⟨P₅, _, σ₅, l₅, S₅, _, e⟩ := hzz; subst e; obtain ⟨⟨mm', hns⟩, hd⟩ := sat_drop_ns S₅
 exact ⟨mm', hns, fun h' hs => ⟨P₅, .next, σ₂, (l₃.trans l₄).trans l₅, hd h' hs, .next, hq⟩⟩
theorem ex_assign_lc_mut {elt : Expr} {y : Str} {g : Comprehension} {gs : List Comprehension} {sc : Scope} {m0 : List (Str × Option AV)} {Q : AFlow -> St -> Prop} (hasync : (g.is_async != 0) = false)
   (cs : CompScope sc) (hE : EnvIs env L names cells) (hfree : ∀ x, (x, .free) ∈ sc.names -> ∃ c, (x, c) ∈ cells) (hc' : ∀ x c, (x, c) ∈ cells' -> (x, .free) ∈ sc.names /\ (x, c) ∈ cells)
   (hm0 : (m0.map (·.1)).Nodup) (hmn : allNone m0) (hs : ∀ x, foldedSetIterable g.iter env x = pure x)
   (hy : (y, .local) ∈ names) (hpos : (pos'.line == pos.line) = true) (hnm : (sc.names.any fun (n, k) => n == y && (k == .local || k == .cell)) = false)
   (hiter : EvIter C A env g.target g.iter σ fun ds σ₁ => ∃ out, Core C A (.ListComp elt (g :: gs) sc pos) g sc cells' m0 (.list []) (.list out) ds σ₁ /\
     ∀ D, ∃ m m' σ₂, SetM m y (.val (.ref D)) m' /\ Upd ((D, .list out) :: σ₁) L (.ns m) (.ns m') σ₂ /\ Q .next σ₂) : Ef C A (exec (.Assign [.Name y pos'] (.ListComp elt (g :: gs) sc pos) spos) env) σ Q := by
 obtain ⟨gt, gi, gf, ga⟩ := g; intro P s S
 have hsw : swapsWith (.ListComp elt (⟨gt, gi, gf, ga⟩ :: gs) sc pos) (some (.Name y pos')) spos.line env = pure true := by
   show (pure (env.blockKind == .function && env.kindOf y == some .local && (pos'.line == pos.line) && !(sc.names.any fun (n, k) => n == y && (k == .local || k == .cell))) : Sem Bool) = pure true; rw [blockKind_fn hE, hE.isLoc y hy, hpos, hnm]; rfl
 rw [exec_Assign_Name_used _ _ _ _ hsw]; refine wpAny_bind (wpAny_standAt (wpAny_bind ?_)); have ha : firstAsync (⟨gt, gi, gf, ga⟩ :: gs) = false := hasync
 show wpAny _ A (do let _ <- comprehension (.ListComp elt (⟨gt, gi, gf, ga⟩ :: gs) sc pos) sc env _ (newList []) (firstAsync (⟨gt, gi, gf, ga⟩ :: gs)) (eval gi env) (some (assign (.Name y pos') env))) _ _ s
 rw [ha]
 refine wpAny_bind (wpAny_mono (comp_wrap (Qu := fun _ s' => Post FR C P Q .next s') (.list _ _ _ _) rfl hasync cs hE hfree hc' hm0 hmn hs new_list S ?_) (fun _ s' hq => wpAny_pure (wpAny_pure hq)) fun _ _ e => e)
 refine fun P' s' S' => wpAny_mono (hiter P' s' S') (fun x s₁ h₁ => wpAny_mono h₁ (fun it s₂ hzz => ?_) fun _ _ x => x) fun _ _ x => x; obtain ⟨P₂, es, ds, σ₁, l₂, S₂, st, sf, out, core, q⟩ := hzz; refine ⟨P₂, es, ds, σ₁, l₂, S₂, st, sf, _, core, ?_⟩; intro Lc D P₃ m s₃ l₃ S₃; obtain ⟨mm, m', σ₂, hset, hupd, hq⟩ := q D; show wpAny _ A (assign (.Name y pos') env (.ref D)) _ _ _; have st' := as_name (C := C) (pos := pos') (store_loc (A := A) (Q := fun _ σ => σ = (Lc, .ns m) :: σ₂) hE hy hset (.there hupd) rfl); refine wpAny_mono (st' P₃ s₃ _ S₃ (.val _)) (fun _ s₅ hzz => ?_) fun _ _ x => x; obtain ⟨P₅, _, σ₅, l₅, S₅, _, e⟩ := hzz; subst e; obtain ⟨⟨mm', hns⟩, hd⟩ := sat_drop_ns S₅
 exact ⟨mm', hns, fun h' hs => ⟨P₅, .next, σ₂, l₃.trans l₅, hd h' hs, .next, hq⟩⟩
end
end
section
theorem codeAmong_put (pos : Pos) (a b : Int) (c : Value) (l : List Value) (h : TriplesOk l) :
   codeAmong pos (l ++ [rawInt a, rawInt b, c]) = match codeAmong pos l with | some x => some x | none => if a == pos.line && b == pos.col then some c else none := by
 fun_induction TriplesOk l with
 | case1 => simp [codeAmong, rawInt]
 | case2 a' t b' u x rest ih =>
   simp only [cons_append, codeAmong]; split
   . rfl
   . exact ih h
 | case3 l h1 h2 => exact h.elim
structure LamFd (fd : FuncData) (params : Arguments) (body : Expr) (scope : Scope) (qual : Str) (cells : List (Str × Addr)) : Prop where
 body : fd.body = .expr body
 params : fd.params = params
 scope : fd.scope = scope
 qual : fd.qualname = qual
 glob : fd.globals = mainGlobals
 blt : fd.builtins = builtinsNs
 dflt : fd.defaults = .none
 kwd : fd.kwdefaults = .none
 clo : ∀ x c, (x, c) ∈ cells -> fd.closure.lookup x = some c
structure LamScope (sc : Scope) : Prop extends CompScope sc where
 co : sc.isCoroutine = false
 gen : sc.isGenerator = false
noncomputable def CodeTab (C : Cx) (code : Value) (Pt : Addr) : Prop := ∃ c, code = .ref c /\ (∀ h : Heap, (∀ a o, C.P₀ a = some o -> h.get? a = some o) -> CodeHd h c Pt)
structure GlB (C : Cx) : Prop where
 blt : ∀ h : Heap, (∀ a o, C.P₀ a = some o -> h.get? a = some o) -> ∃ mg bm ob, h.Ns mainGlobals mg /\ mg "__builtins__" = some (.ref bm) /\ bm ≠ builtinsNs /\ bm ≠ mainGlobals /\ C.P₀ bm = some ob /\ ob.cls = .type "module" /\ ob.dict = some builtinsNs /\ ob.data = .plain
 mainP : ∃ o, C.P₀ mainGlobals = some o
section
variable {C : Cx} {A : Around} {σ : St} {env : Env} {pos : Pos} {L : Addr} {names : List (Str × NameKind)} {cells cells' : List (Str × Addr)}
set_option tactic.hygienic true in
theorem ev_lambda {params : Arguments} {body : Expr} {sc : Scope} {Pt : Addr} {al : List (Pos × Str)} (GB : GlB C) (cs : CompScope sc) (hE : EnvIs env L names cells) (hcode : CodeTab C env.code Pt) (ht : (Pt, .tab al) ∈ σ)
   (hal : (pos, env.qual ++ "<lambda>") ∈ al) (huniq : ∀ p q, (p, q) ∈ al -> p.line = pos.line -> p.col = pos.col -> q = env.qual ++ "<lambda>") (hd : params.defaults = []) (hkd : params.kw_defaults = [])
   (hfree : ∀ x, (x, .free) ∈ sc.names -> ∃ c, (x, c) ∈ cells) (hc' : ∀ x c, (x, c) ∈ cells' -> (x, .free) ∈ sc.names /\ (x, c) ∈ cells)
   (hQ : ∀ fd, LamFd fd params body sc (env.qual ++ "<lambda>") cells' -> Q (.fn fd) σ) : Ev C A (eval (.Lambda params body sc pos) env) σ Q := by
 intro P s S; obtain ⟨cl, hclos, hclk⟩ := closure_is cs hE hfree
 have he : eval (.Lambda params body sc pos) env = makeFunction "<lambda>" (env.qual ++ "<lambda>") params (.expr body) sc env [] [] [] pos pos.line := by
   obtain ⟨p1, p2, p3, p4, p5, p6, p7⟩ := params; simp only at hd hkd; subst hd; subst hkd; rfl
 rw [he]; obtain ⟨ps, g1, g2, g3⟩ := S.ents _ ht; obtain ⟨c, hc, hCH⟩ := hcode; have CH := hCH s.heap S.old; obtain ⟨mg, bm, ob, hg, b1, b2, b3, b4, b5, b6, b7⟩ := GB.blt s.heap S.old; obtain ⟨og, hog⟩ := GB.mainP; have hPt : P Pt = none := S.off _ ht; have hgP : mainGlobals ≠ Pt := fun e => by rw [<- e] at hPt; have := S.base _ _ hog; rw [hPt] at this; cases this
 have hbP : bm ≠ Pt := fun e => by rw [<- e] at hPt; have := S.base _ _ b4; rw [hPt] at this; cases this
 have hb : s.heap.BuiltinsAt mg Pt := ⟨bm, ob, b1, b2, b3, hbP, S.old _ _ b4, b5, b6, b7⟩
 have hlam : ∀ pm cv ctv, LamFd (kla_fn "<lambda>" (env.qual ++ "<lambda>") params body sc cl pm cv ctv) params body sc (env.qual ++ "<lambda>") cells' := fun pm cv ctv =>
   ⟨rfl, rfl, rfl, rfl, rfl, rfl, rfl, rfl, fun x c h => hclk x c (hc' x c h).1 (hc' x c h).2⟩
 cases hf : codeAmong pos ps.toList with
 | some cv =>
   have hcp := g3 pos cv _ hf hal; refine kla_makeFunctionHit (mg := mg) hclos hE.glob hg hc CH g1 g2 hf hb fun ctv h' tk hk hsz => ?_; have S' := S.heap (h' := h') tk hk; obtain ⟨l, S''⟩ := frozen_new (h := h') S' (o := { cls := .type "function", data := .func (kla_fn "<lambda>" (env.qual ++ "<lambda>") params body sc cl ((mg "__name__").getD .none) cv ctv) }) rfl tk; exact ⟨_, _, σ, l, S'', .fn (addP_self _ _ _) rfl (hcp.mono l), hQ _ (hlam _ _ _)⟩
 | none =>
   refine kla_makeFunction (mg := mg) hclos hE.glob hg hc CH g1 g2 hf hgP hb fun c' ctv h' tk hx hge hlt hrec htab => ?_; obtain ⟨c₂, oc, vs, t, e2, hoc, hdd, hv⟩ := hrec; cases e2; have hnew : s.heap.get? c' = none := Heap.get?_none_of_le hge; obtain ⟨n1, n2⟩ := S.none_of_fresh hnew; have lc := addP_le oc n1; have hnd := S.nd; obtain ⟨σ₁, σ₂, hσ⟩ := List.append_of_mem ht; subst hσ; have S₁ : Sat C P (σ₁ ++ (Pt, .obj (tabObj (ps ++ #[rawInt pos.line, rawInt pos.col, .ref c']))) :: σ₂) { s with heap := h', toks := tk } := S.at tk (fun b o hb e => hx b o hb e) htab
   have n2' : c' ∉ (σ₁ ++ (Pt, AEnt.obj (tabObj (ps ++ #[rawInt pos.line, rawInt pos.col, .ref c']))) :: σ₂).map (·.1) := by
     simpa using n2
   have S₂ := S₁.frozen n1 n2' hoc
   have S₃ : Sat C (addP P c' oc) (σ₁ ++ (Pt, .tab al) :: σ₂) { s with heap := h', toks := tk } := by
     refine S₂.at (s := { s with heap := h', toks := tk }) tk (fun b o hb e => e) ⟨_, htab, ?_, ?_⟩
     . rw [Array.toList_append]; exact TriplesOk_snoc _ _ _ _ g2
     . intro pos' cv q hq hm; rw [Array.toList_append] at hq; have hq' := hq
       change codeAmong pos' (ps.toList ++ [rawInt pos.line, rawInt pos.col, .ref c']) = some cv at hq'
       rw [codeAmong_put _ _ _ _ _ g2] at hq'
       cases hcm : codeAmong pos' ps.toList with
       | some x =>
         rw [hcm] at hq'; cases hq'; exact (g3 pos' _ q hcm hm).mono lc
       | none =>
         rw [hcm] at hq'; simp only at hq'; split at hq'
         . rename_i hpp
           simp only [Bool.and_eq_true, beq_iff_eq] at hpp; cases hq'; have := huniq pos' q hm (Int.ofNat.inj hpp.1).symm (Int.ofNat.inj hpp.2).symm; subst this; exact ⟨c', oc, vs, t, rfl, addP_self _ _ _, hdd, hv⟩
         . cases hq'
   obtain ⟨l, S₄⟩ := frozen_new (h := h') S₃ (o := kla_obj "<lambda>" (env.qual ++ "<lambda>") params body sc cl ((mg "__name__").getD .none) c' ctv) rfl tk; exact ⟨_, _, _, lc.trans l, S₄, .fn (addP_self _ _ _) rfl ⟨c', oc, vs, t, rfl, l _ _ (addP_self _ _ _), hdd, hv⟩, hQ _ (hlam _ _ _)⟩
set_option tactic.hygienic true in
theorem callV_lam {fd : FuncData} {params : Arguments} {body : Expr} {sc : Scope} {qual x : Str} {d : AV} {m0 : List (Str × Option AV)} {glob : List (Str × AV)} {n : Nat} (G : Gl C glob) (hA : AOk (n + 1) A) (hl : LamFd fd params body sc qual cells') (cs : LamScope sc)
   (hbind : ∀ fd : FuncData, fd.params = params -> fd.defaults = .none -> fd.kwdefaults = .none -> ∀ v, bindArgs fd ⟨[v], []⟩ = pure [(x, v)]) (hx : (x, .local) ∈ sc.names) (hm0 : (m0.map (·.1)).Nodup) (hm : ∀ y av, (y, some av) ∈ m0 -> y = x /\ av = d)
   (h : ∀ L A' env, AOk n A' -> EnvIs env L sc.names cells' -> Ev C A' (eval body env) ((L, .ns m0) :: σ) fun e σ' => ∃ σ'', σ''.Sublist σ' /\ Q e σ'') : CallV C A (.fn fd) [d] [] σ Q := by
 rintro P s v _ _ S r (_ | ⟨rd, _ | _⟩) (_ | _)
 rename_i v₁
 obtain ⟨a, o, rfl, ho, hdd, hcd⟩ := r.fn_inv; obtain ⟨c, oc, ovs, t, e1, e2, e3, e4⟩ := hcd; refine wpAny_call (kla_callFunE hA.room (S.pool _ _ ho) hdd (by rw [hl.scope]; exact cs.co) (by rw [hl.scope]; exact cs.gen) hl.body ⟨c, oc, ovs, t, e1, S.pool _ _ e2, e3, e4⟩ ?_); rw [hbind fd hl.params hl.dflt hl.kwd v₁]
 refine wpAny_pure (wpAny_newFunctionEnv (by rw [hl.scope]; exact cs.nocell) (fun y hy => by
   rw [List.mem_singleton.mp hy, hl.scope]; exact lookup_of_mem cs.nd hx) (fun h₁ hns hsb => ⟨(G.nolimit _ S.old).fresh _ hsb, ?_⟩) (by rw [hl.scope]; exact cs.kind))
 have hk : ∀ b o, s.heap.get? b = some o -> h₁.get? b = some o := fun b o e => hsb.extBut b o (ne_of_lt (Heap.lt_size e)) (Heap.get?_push_of_some _ e)
 have S₁ : Sat C P ((s.heap.objs.size, .ns m0) :: σ) { s with heap := h₁, toks := s.toks + [(x, v₁)].length } := S.new (e := .ns m0) (Heap.get?_none_of_le (le_refl _)) _ hk ⟨hm0, _, hns, fun y av hy => by
   obtain ⟨rfl, rfl⟩ := hm y av hy; exact ⟨v₁, by simp [lookup_cons], rd⟩⟩
 have hE : EnvIs (newEnv fd.scope s.heap.objs.size fd.globals fd.closure (fd.qualname ++ ".<locals>.") (some a) fd.code none fd.builtins) s.heap.objs.size sc.names cells' :=
   envIs_of (by show fd.scope.kind = _; rw [hl.scope]; exact cs.kind) (by show fd.scope.names = _; rw [hl.scope]) cs.nd cs.nodbg cs.nocls rfl hl.glob hl.blt hl.clo
 refine kla_codeExpr ((h _ _ _ (hA.deeper _) hE).run S₁ fun P₂ u e σ₂ s₂ l₂ S₂ r₂ hzz => ?_); obtain ⟨σ₃, hs, hq⟩ := hzz; exact ⟨P₂, e, σ₃, l₂, S₂.sub hs, r₂, hq⟩
end
end
section
structure DefFd (fd : FuncData) (params : Arguments) (body : List PySem.Stmt) (scope : Scope) : Prop where
 body : fd.body = .stmts body
 params : fd.params = params
 scope : fd.scope = scope
 glob : fd.globals = mainGlobals
 blt : fd.builtins = builtinsNs
 clo : fd.closure = []
noncomputable def DefSt (fd : FuncData) : Option PySem.Stmt -> Prop
 | some (.FunctionDef _ params body _ _ _ scope _ _ _) => DefFd fd params body scope
 | _ => False
noncomputable abbrev topSt (i : Nat) : Option PySem.Stmt := PySem.Challenge.pw_xh0037_01.main.body[i]?
structure Bare (fd : FuncData) : Prop where
 dflt : fd.defaults = .none
 kwd : fd.kwdefaults = .none
noncomputable def scopeB (sc : Scope) : Bool := sc.kind == .function && !sc.isCoroutine && !sc.isGenerator && decide (sc.names.map (·.1)).Nodup && decide (("__debug__" : Str) ∉ sc.names.map (·.1)) && decide (("__classdict__" : Str) ∉ sc.names.map (·.1))
theorem scopeOk_of {sc : Scope} (h : scopeB sc = true) : ScopeOk sc := by
 unfold scopeB at h; simp only [Bool.and_eq_true, decide_eq_true_eq, Bool.not_eq_true'] at h; obtain ⟨⟨⟨⟨⟨h1, h2⟩, h3⟩, h4⟩, h5⟩, h6⟩ := h; refine ⟨?_, h2, h3, h4, h5, h6⟩
 cases hk : sc.kind <;> rw [hk] at h1 <;> first | rfl | cases h1
noncomputable def PlainBind (p : Arguments) (pn : List Str) : Prop := ∀ (fd : FuncData) (vs : List Value), fd.params = p -> fd.defaults = .none -> fd.kwdefaults = .none -> vs.length = pn.length -> bindArgs fd ⟨vs, []⟩ = pure (pn.zip vs)
noncomputable def defB (sc : Scope) (pn others : List Str) : Bool := scopeB sc && decide (∀ x ∈ sc.names, x.2 ≠ .cell) && decide (∀ x ∈ pn ++ others, (x, NameKind.local) ∈ sc.names) && decide (pn ++ others).Nodup
variable {C : Cx} {A : Around} {σ : St} {glob : List (Str × AV)}
noncomputable abbrev frame (pn : List Str) (ds : List AV) (others : List Str) : List (Str × Option AV) := (pn.zip ds).map (fun p => (p.1, some p.2)) ++ others.map (fun x => (x, none))
theorem callV_plain {fd : FuncData} {params : Arguments} {body : List PySem.Stmt} {sc : Scope} {n : Nat} {ds : List AV} (G : Gl C glob) (hA : AOk (n + 1) A) (hf : DefFd fd params body sc) (hb : Bare fd) (pn others : List Str) (hs : defB sc pn others = true) (hp : PlainBind params pn)
   (hl : ds.length = pn.length) (h : ∀ L A' env, AOk n A' -> EnvIs env L sc.names [] -> env.code = fd.code -> Ef C A' (execs body env) ((L, .ns (frame pn ds others)) :: σ) (RetQ Q)) : CallV C A (.fn fd) ds [] σ Q := by
 obtain ⟨f1, f2, f3, f4, f5, f6⟩ := hf; unfold defB at hs; simp only [Bool.and_eq_true, decide_eq_true_eq] at hs; obtain ⟨⟨⟨h1, h2⟩, h3⟩, h4⟩ := hs
 have hz : (pn.zip ds).map (·.1) = pn := List.map_fst_zip (by omega)
 refine callV_def (m0 := frame pn ds others) (binds := pn.zip ds) G hA f1 (f3 ▸ scopeOk_of h1) (f3 ▸ h2) f4 f5 f6 ?_ ?_ ?_ ?_ ?_ (f3 ▸ h)
 . intro P s vs kvs _ _ rs rk; cases rk; exact ⟨pn.zip vs, BindsTo.of_eq (hp fd vs f2 hb.dflt hb.kwd (by rw [rs.length, hl])), VRk.zip pn rs⟩
 . intro x hx; rw [f3]
   exact h3 _ (mem_append_left _ (hz ▸ mem_map_of_mem (f := (·.1)) hx))
 . rw [hz]; exact (List.nodup_append.mp h4).1
 . have : (frame pn ds others).map (·.1) = pn ++ others := by
     simp only [frame, map_append, map_map]
     have e1 : (pn.zip ds).map ((·.1) ∘ fun p : Str × AV => ((p.1, some p.2) : Str × Option AV)) = pn := hz
     have e2 : others.map ((·.1) ∘ fun x : Str => ((x, none) : Str × Option AV)) = others := by
       show others.map (fun x => x) = others; simp
     rw [e1, e2]
   rw [this]; exact h4
 . intro x av hx; rcases List.mem_append.mp hx with hx | hx
   . obtain ⟨p, hp, e⟩ := List.mem_map.mp hx; cases e; exact hp
   . obtain ⟨p, hp, e⟩ := List.mem_map.mp hx; cases e
noncomputable def GN (C : Cx) (x : Str) (d : AV) : Prop := ∃ glob, Gl C glob /\ (x, d) ∈ glob
theorem name_gn {env : Env} {L : Addr} {names : List (Str × NameKind)} {cells : List (Str × Addr)} {x : Str} {pos : Pos} {d : AV} (hE : EnvIs env L names cells) (hk : (x, .globalImplicit) ∈ names) (hg : GN C x d) (hQ : Q d σ) : Ev C A (eval (.Name x pos) env) σ Q :=
 let ⟨_, G, hm⟩ := hg; name_glob G hE hk hm hQ
set_option genInjectivity false in
set_option genSizeOf false in
structure Fns where
 isT : FuncData
 isN : FuncData
 isE : FuncData
 insR : FuncData
 bisR : FuncData
 insL : FuncData
 bisL : FuncData
 addC : FuncData
 cntC : FuncData
 drawn : FuncData
 gram : FuncData
 closed : FuncData
 mach : FuncData
 fitt : FuncData
 furt : FuncData
 law : FuncData
inductive GnT (X : Fns) : Str -> AV -> Prop
 | ENDMARKER : GnT X "ENDMARKER" (AV.int 0)
 | NT_OFFSET : GnT X "NT_OFFSET" (AV.int 256)
 | isT : GnT X "ISTERMINAL" (.fn X.isT)
 | isN : GnT X "ISNONTERMINAL" (.fn X.isN)
 | isE : GnT X "ISEOF" (.fn X.isE)
 | insR : GnT X "insort_right" (.fn X.insR)
 | bisR : GnT X "bisect_right" (.fn X.bisR)
 | insL : GnT X "insort_left" (.fn X.insL)
 | bisL : GnT X "bisect_left" (.fn X.bisL)
 | addC : GnT X "add_callers" (.fn X.addC)
 | cntC : GnT X "count_calls" (.fn X.cntC)
 | drawn : GnT X "_law_drawn" (.fn X.drawn)
 | gram : GnT X "_law_grammar" (.fn X.gram)
 | closed : GnT X "_law_closed" (.fn X.closed)
 | mach : GnT X "_law_machine" (.fn X.mach)
 | fitt : GnT X "_law_fitting" (.fn X.fitt)
 | furt : GnT X "_law_further" (.fn X.furt)
 | len : GnT X "len" (.val (.builtin "len"))
 | sum : GnT X "sum" (.val (.builtin "sum"))
 | abs : GnT X "abs" (.val (.builtin "abs"))
 | ord : GnT X "ord" (.val (.builtin "ord"))
 | isinstance : GnT X "isinstance" (.val (.builtin "isinstance"))
 | sorted : GnT X "sorted" (.val (.builtin "sorted"))
 | range : GnT X "range" (.val (.type "range"))
 | enumerate : GnT X "enumerate" (.val (.type "enumerate"))
 | zip : GnT X "zip" (.val (.type "zip"))
 | tuple : GnT X "tuple" (.val (.type "tuple"))
 | list : GnT X "list" (.val (.type "list"))
 | str : GnT X "str" (.val (.type "str"))
 | ValueError : GnT X "ValueError" (.val (.type "ValueError"))
set_option genInjectivity false in
set_option genSizeOf false in
structure Wd (C : Cx) extends Fns where
 G : Gl C []
 GB : GlB C
 d_isT : DefSt isT (topSt 52) /\ Bare isT
 d_isN : DefSt isN (topSt 53) /\ Bare isN
 d_isE : DefSt isE (topSt 54) /\ Bare isE
 d_insR : DefSt insR (topSt 56)
 d_bisR : DefSt bisR (topSt 57)
 d_insL : DefSt insL (topSt 58)
 d_bisL : DefSt bisL (topSt 59)
 d_addC : DefSt addC (topSt 62) /\ Bare addC
 d_cntC : DefSt cntC (topSt 63) /\ Bare cntC
 d_drawn : DefSt drawn (topSt 65) /\ Bare drawn
 d_gram : DefSt gram (topSt 66) /\ Bare gram
 d_closed : DefSt closed (topSt 67) /\ Bare closed
 d_mach : DefSt mach (topSt 68) /\ Bare mach
 d_fitt : DefSt fitt (topSt 69) /\ Bare fitt
 d_furt : DefSt furt (topSt 70) /\ Bare furt
 d_law : DefSt law (topSt 71) /\ Bare law
 g : ∀ x d, GnT toFns x d -> GN C x d
theorem Wd.g_ValueError {C : Cx} (X : Wd C) : GN C "ValueError" (.val (.type "ValueError")) := X.g _ _ .ValueError
end
local macro_rules | `(tactic| walk_at "n") => `(tactic| repeat (first | exact mem_cons_self | refine mem_cons_of_mem _ ?_ | exact Upd.here | exact SetM.here | apply Upd.there | apply SetM.there | with_reducible assumption))
local macro_rules | `(tactic| walk_at "m") => `(tactic| first | ((with_reducible walk_at "n"); done) | (walk_at "n"; done) | (repeat (first | assumption | refine mem_cons_of_mem _ ?_)))
local macro_rules | `(tactic| walk_at "b") => `(tactic| (intro fd vs e1 e2 e3 e4; (first | (obtain ⟨v, e⟩ := len1 e4; subst e) | (obtain ⟨v, u, e⟩ := len2 e4; subst e) | (obtain ⟨v, u, w, e⟩ := len3 e4; subst e)); cases fd; dsimp only at e1 e2 e3; subst e1 e2 e3; rfl))
local macro_rules | `(tactic| walk_at "e") => `(tactic| first
 | (with_reducible first | refine args_nil ?_ | refine const_int ?_ | refine const_none ?_ | refine const_bool ?_ | refine const_str ?_ | refine ev_bin ?_ | refine ev_ifexp ?_ | refine ev_un ?_ | refine ev_sub ?_ | refine ev_tuple ?_ | refine it_not ?_ | refine it_and_nil ?_ | refine it_or_nil ?_ | refine it_and ?_ | refine it_or ?_)
 | ((with_reducible first | refine args_cons ?_ ?_ | refine ev_cmp1 ?_ ?_ | refine ev_call ?_ ?_ ?_ ?_ ?_ ?_ | refine it_cmp1 ?_ ?_ | refine it_plain ?_ ?_) <;> first | rfl | exact ⟨_, _, rfl⟩ | skip)
 | refine name_loc (by assumption) (by first | (with_reducible walk_at "n"; done) | fail) (by walk_at "m") (by walk_at "m") ?_
 | refine name_cell (by assumption) (by first | (with_reducible walk_at "n"; done) | fail) (by walk_at "m") (by walk_at "m") ?_
 | refine name_free (by assumption) (by first | (with_reducible walk_at "n"; done) | fail) (by walk_at "m") (by walk_at "m") ?_
 | refine name_gn (by assumption) (by first | (with_reducible walk_at "n"; done) | fail) (Wd.g (by assumption) _ _ (by with_reducible constructor)) ?_)
local macro_rules | `(tactic| walk_at "a") => `(tactic| first
 | refine as_loc (by assumption) (by first | (with_reducible walk_at "n"; done) | fail) (by walk_at "m") (by walk_at "m") ?_
 | refine as_cell (by assumption) (by first | (with_reducible walk_at "n"; done) | fail) (by walk_at "m") (by walk_at "m") ?_)
local macro_rules | `(tactic| walk_at "g") => `(tactic| refine exs_assign ?_ rfl rfl rfl)
section
variable {C : Cx} {A : Around} {σ : St}
variable (X : Wd C)
theorem isTerminal (hA : AOk 1 A) {x : Int} (hQ : Q (.bool (decide (x < 256))) σ) : CallV C A (.fn X.isT) [.int x] [] σ Q := by
 have hf' : DefFd X.isT _ _ _ := X.d_isT.1; refine callV_plain X.G hA hf' X.d_isT.2 ["x"] [] (by decide) (by walk_at "b") rfl ?_; intro L A' env hA hE _; refine exs_cons (ex_return (ev_cmp1 ?_ rfl)); iterate 2 walk_at "e"
 refine cmp_lt ?_; exact ⟨_, _, rfl, sublist_cons_self _ _, hQ⟩
theorem isNonterminal (hA : AOk 1 A) {x : Int} (hQ : Q (.bool (decide (x ≥ 256))) σ) : CallV C A (.fn X.isN) [.int x] [] σ Q := by
 have hf' : DefFd X.isN _ _ _ := X.d_isN.1; refine callV_plain X.G hA hf' X.d_isN.2 ["x"] [] (by decide) (by walk_at "b") rfl ?_; intro L A' env hA hE _; refine exs_cons (ex_return (ev_cmp1 ?_ rfl)); iterate 2 walk_at "e"
 refine cmp_ge ?_; exact ⟨_, _, rfl, sublist_cons_self _ _, hQ⟩
theorem isEof (hA : AOk 1 A) {x : Int} (hQ : Q (.bool (x == 0)) σ) : CallV C A (.fn X.isE) [.int x] [] σ Q := by
 have hf' : DefFd X.isE _ _ _ := X.d_isE.1; refine callV_plain X.G hA hf' X.d_isE.2 ["x"] [] (by decide) (by walk_at "b") rfl ?_; intro L A' env hA hE _; refine exs_cons (ex_return (ev_cmp1 ?_ rfl)); iterate 2 walk_at "e"
 refine cmp_eq ?_; exact ⟨_, _, rfl, sublist_cons_self _ _, hQ⟩
end
section
inductive PartA : AV -> Option Int -> Prop
 | none : PartA .none none
 | int (i : Int) : PartA (.int i) (some i)
theorem PartA.is {P : Pool} {v : Value} {a : AV} {i : Option Int} (h : PartA a i) (r : VR P v a) : IsPart v i := by
 cases h with
 | none => exact r.none_inv ▸ .none
 | int i => obtain ⟨t, e⟩ := r.int_inv; exact e ▸ .int _ _
noncomputable abbrev slO (l u : Value) : Obj := { cls := .type "slice", data := .fields #[l, u, .none] }
noncomputable def cut {α : Type} (lo hi : Option Int) (ds : List α) : List α := (ds.drop (lo.elim 0 (clipAt ds.length))).take (hi.elim ds.length (clipAt ds.length) - lo.elim 0 (clipAt ds.length))
theorem evalPart_none' (env : Env) : evalPart none env = pure .none := rfl
section
variable {C : Cx} {A : Around} {σ σ' : St} {env : Env} {pos pos' : Pos} {d : AV} {P : Pool} {s : Shared} {v : Value}
theorem ev_part_none (h : Q .none σ) : Ev C A (evalPart none env) σ Q := fun P s S => wpAny_pure (Post.mk S .none h)
theorem ev_part_some {e : Expr} (h : Ev C A (eval e env) σ Q) : Ev C A (evalPart (some e) env) σ Q := h
theorem ev_slice {lower upper : Option Expr} (h : Ev C A (evalPart lower env) σ fun lo σ₁ => Ev C A (evalPart upper env) σ₁ fun hi σ₂ => ∃ i j, PartA lo i /\ PartA hi j /\ ∀ l u, IsPart l i -> IsPart u j -> Q (.obj (slO l u)) σ₂) :
   Ev C A (eval (.Slice lower upper none pos) env) σ Q := by
 intro P s S; refine wpAny_Slice (h.run S fun P₁ v₁ a σ₁ s₁ l₁ S₁ r₁ q₁ => q₁.run S₁ fun P₂ v₂ b σ₂ s₂ l₂ S₂ r₂ ⟨i, j, pi, pj, q₂⟩ => wpAny_pure ?_); obtain ⟨l, S₃⟩ := frozen_new (h := s.heap) S₂ (o := slO v₁ v₂) rfl s₂.toks; exact ⟨_, _, _, (l₁.trans l₂).trans l, S₃, .obj (addP_self _ _ _), q₂ _ _ (pi.is r₁) (pj.is r₂)⟩
theorem VRs.cut {vs : List Value} {ds : List AV} (h : VRs P vs ds) (lo hi : Option Int) : VRs P (cut lo hi vs) (cut lo hi ds) := by
 unfold Mine.cut; rw [h.length]; exact (h.drop _).take _
theorem cut_len {α : Type} (lo hi : Option Int) (ds : List α) : (cut lo hi ds).length <= ds.length := by
 exact ((List.take_sublist _ _).trans (drop_sublist _ _)).length_le
set_option tactic.hygienic true in
theorem gi_list_slice {ds : List AV} {l u : Value} {lo hi : Option Int} (hd : RdL σ d ds) (hl : IsPart l lo) (hu : IsPart u hi) (hz : ds.length <= sizeLine) (hQ : Q (.list (cut lo hi ds)) σ) : Op2 VR C A getItem d (.obj (slO l u)) σ Q := by
 rintro P s v _ S r (@⟨_, _⟩)
 rename_i a₂ ho
 obtain ⟨a, vs, rfl, g1, g2⟩ := hd.isList S r; refine wpAny_getItem_list_slice g1 (vs := .none) (st := none) ⟨_, S.pool _ _ ho, rfl, rfl⟩ hl hu .none (by simp) ?_ (by simpa [g2.length] using hz); rw [slicePick_plain]; obtain ⟨l', S₃⟩ := frozen_new (h := s.heap) S (o := listO (cut lo hi vs) 0) rfl s.toks; exact ⟨_, _, _, l', by simpa [cut] using S₃, .list (addP_self _ _ _) ((g2.cut lo hi).mono l'), hQ⟩
theorem st_list_slice {value : Expr} {up lw : Option Expr} {p : Pos} {ds : List AV} {l u : Value} (hd : RdL σ d ds) (h : Op2 VR C A getItem d (.obj (slO l u)) σ Q) : Op2 VR C A (subscriptTail value (.Slice lw up none p)) d (.obj (slO l u)) σ Q := by
 intro P s v u S r r'; have g := h P s v u S r r'; obtain ⟨a, vs, rfl, g1, g2⟩ := hd.isList S r; exact tail_any g1.typeIs slot_list_getitem.lookup g rfl
theorem mx1 {n : Nat} {v : Int} (h : v < 0) : max (v + n) 0 = max 0 (min (v + n) n) := by
 have : v + n <= n := by have := Int.add_le_add_right (Int.le_of_lt h) (n : Int); rwa [Int.zero_add] at this
 rw [Int.min_eq_left this, Int.max_comm]
theorem mx2 {n : Nat} {v : Int} (h : ¬ v < 0) : min v n = max 0 (min v n) := (Int.max_eq_right (Int.le_min.mpr ⟨Int.not_lt.mp h, natCast_nonneg n⟩)).symm
theorem sl_adjust (lo hi : Option Int) (n : Nat) : Builtin.Slice.sliceAdjust lo hi 1 (n : Int) = (((lo.elim 0 (clipAt n) : Nat) : Int), ((hi.elim n (clipAt n) : Nat) : Int)) := by
 unfold Builtin.Slice.sliceAdjust; have h1 : ¬ ((1 : Int) < 0) := by decide
 cases lo <;> cases hi <;> simp only [h1, if_false, Option.elim, clipAt_cast] <;> (try congr 1) <;> (repeat' split) <;> first | rfl | exact mx1 (by assumption) | exact mx2 (by assumption) | lia
theorem sl_places (a b : Nat) : Builtin.Slice.slicePlaces (a : Int) (b : Int) 1 = b - a := by
 unfold Builtin.Slice.slicePlaces; have h1 : (1 : Int) > 0 := by decide
 simp only [h1, if_true, Int.ediv_one]; split
 . rw [Int.sub_add_cancel]; exact Int.toNat_sub b a
 . next h => exact (Nat.sub_eq_zero_of_le (Int.ofNat_le.mp (Int.not_lt.mp h))).symm
theorem sl_part {v : Value} {i : Option Int} {E : Value -> Shared -> Prop} {Q : Option Int -> Shared -> Prop} (hv : IsPart v i) (h : Q i s) : wpAny (model C.prog C.w) A (Builtin.Slice.slicePartIndex v) Q E s := by
 cases hv with
 | none => exact slicePart_none h
 | int i t => exact slicePart_int h
theorem sl_applied {sl : Addr} {l u : Value} {lo hi : Option Int} {n : Nat} {E : Value -> Shared -> Prop} {Q : Int × Int × Nat -> Shared -> Prop} (hs : s.heap.IsSliceOf sl l u .none) (hl : IsPart l lo) (hu : IsPart u hi)
   (h : Q (((lo.elim 0 (clipAt n) : Nat) : Int), 1, hi.elim n (clipAt n) - lo.elim 0 (clipAt n)) s) : wpAny (model C.prog C.w) A (Builtin.Slice.sliceApplied (.ref sl) (pure (n : Int))) Q E s := by
 obtain ⟨os, hos, hcs, hds⟩ := id hs; unfold Builtin.Slice.sliceApplied Builtin.Slice.sliceFields; refine wpAny_bind (wpAny_bind (wpAny_field hos hds (x := l) rfl (wpAny_bind (wpAny_field hos hds (x := u) rfl (wpAny_bind (wpAny_field hos hds (x := .none) rfl (wpAny_pure ?_))))))); refine wpAny_bind (slicePart_none ?_)
 show wpAny _ _ (if ((1 : Int) == 0) = true then _ else _) _ _ s
 rw [if_neg (by decide)]; refine wpAny_bind (sl_part hl (wpAny_bind (sl_part hu (wpAny_bind (wpAny_pure ?_)))))
 show wpAny _ _ (match Builtin.Slice.sliceAdjust lo hi 1 (n : Int) with | (lo, hi) => pure (lo, (1 : Int), Builtin.Slice.slicePlaces lo hi 1)) _ _ s
 rw [sl_adjust]; show wpAny _ _ (pure ((((lo.elim 0 (clipAt n) : Nat) : Int)), (1 : Int), Builtin.Slice.slicePlaces ((lo.elim 0 (clipAt n) : Nat) : Int) ((hi.elim n (clipAt n) : Nat) : Int) 1)) _ _ s; rw [sl_places]; exact wpAny_pure h
theorem sl_pick (xs : Array Value) (a k : Nat) : ((List.range k).filterMap fun (j : Nat) => xs[((a : Int) + (j : Int) * 1).toNat]?).toArray = ((xs.toList.drop a).take k).toArray := by
 have e : (fun (j : Nat) => xs[((a : Int) + (j : Int) * 1).toNat]?) = fun j => xs[a + j]? := by
   funext j
   have : ((a : Int) + (j : Int) * 1).toNat = a + j := by rw [Int.mul_one]; exact toNat_natCast (a + j)
   rw [this]
 rw [e]; have := pick_run xs a k; rw [List.filterMap_map] at this; have e2 : ((fun x => xs[x]?) ∘ fun x => a + x) = fun k => xs[a + k]? := rfl; rw [e2] at this; rw [this]
set_option tactic.hygienic true in
theorem gi_tuple_slice {ds : List AV} {l u : Value} {lo hi : Option Int} (hl : IsPart l lo) (hu : IsPart u hi) (hz : ds.length <= sizeLine) (hQ : Q (.tuple (cut lo hi ds)) σ) : Op2 VR C A getItem (.tuple ds) (.obj (slO l u)) σ Q := by
 rintro P s v _ S r (@⟨_, _⟩)
 rename_i a₂ ho
 obtain ⟨t, vs, rfl, ht, g2⟩ := tup_get S r; have hs : s.heap.IsSliceOf a₂ l u .none := ⟨_, S.pool _ _ ho, rfl, rfl⟩; have hTs : s.TypeIs (.ref a₂) "slice" := ⟨_, S.pool _ _ ho, rfl⟩; have hlen := g2.length; unfold getItem
 try with_reducible refine wpAny_holding ?_
 first | refine wpAny_bind (wpAny_pure ?_) | skip
 refine wpAny_bind (wpAny_sequenceKey ht.typeIs (by decide) ?_)
 refine wpAny_bind (wpAny_callSpecial?_slot (name := Str.ofString "__getitem__") ht.typeIs slot_tuple_getitem
   (wpAny_call_entry slot_tuple_getitem ht.typeIs entry_tuple_getitem ?_ (args_tuple_getitem _ _)))
 show wpAny _ _ (Builtin.Tuple.tupleItemsOf (.ref t) >>= _) _ _ s; refine wpAny_bind (tupleItemsOf_ ht ?_); refine wpAny_bind (wpAny_typeOf hTs ?_); rw [if_pos (by decide)]; have hsz : (List.toArray vs).size = vs.length := size_toArray; refine wpAny_bind (sl_applied hs hl hu ?_); by_cases hw : ((((lo.elim 0 (clipAt (List.toArray vs).size) : Nat) : Int)) == 0 && (1 : Int) == 1 && (hi.elim (List.toArray vs).size (clipAt (List.toArray vs).size) - lo.elim 0 (clipAt (List.toArray vs).size)) == (List.toArray vs).size) = true
 . show wpAny _ _ (if ((((lo.elim 0 (clipAt (List.toArray vs).size) : Nat) : Int)) == 0 && (1 : Int) == 1 && (hi.elim (List.toArray vs).size (clipAt (List.toArray vs).size) - lo.elim 0 (clipAt (List.toArray vs).size)) == (List.toArray vs).size) = true then _ else _) _ _ s
   rw [if_pos hw]
   have hc : cut lo hi ds = ds := by
     simp only [Bool.and_eq_true, beq_iff_eq] at hw; unfold cut; have h1 : lo.elim 0 (clipAt ds.length) = 0 := by have := hw.1.1; rw [hsz, hlen] at this; exact_mod_cast this
     have h2 := hw.2; rw [hsz, hlen, h1] at h2; rw [h1, h2]; simp
   rw [hc] at hQ; have fin : Post VR C P Q (.ref t) s := Post.mk S r hQ; have hTt : s.TypeIs (.ref t) "tuple" := ht.typeIs
   have hex : ∀ {K : Bool -> Shared -> Prop} {E : Value -> Shared -> Prop}, K true s -> wpAny (model C.prog C.w) (A.in1) (Builtin.Tuple.tupleIsExact (.ref t)) K E s := fun hk => by
     unfold Builtin.Tuple.tupleIsExact; exact wpAny_bind (wpAny_typeOf hTt (wpAny_pure hk))
   refine wpAny_bind (hex ?_); simp only [if_true]; exact wpAny_bind (wpAny_rule (wpAny_pure ⟨_, rfl, wpAny_pure fin⟩))
 . show wpAny _ _ (if ((((lo.elim 0 (clipAt (List.toArray vs).size) : Nat) : Int)) == 0 && (1 : Int) == 1 && (hi.elim (List.toArray vs).size (clipAt (List.toArray vs).size) - lo.elim 0 (clipAt (List.toArray vs).size)) == (List.toArray vs).size) = true then _ else _) _ _ s
   rw [if_neg hw, sl_pick]; obtain ⟨l', S₃⟩ := frozen_new (h := s.heap) S (o := tupO (cut lo hi vs) 0) rfl s.toks; have fin : Post VR C P Q (.ref s.heap.objs.size) { s with heap := s.heap.push (tupO (cut lo hi vs) 0) } := ⟨_, _, _, l', S₃, .tuple (addP_self _ _ _) rfl rfl ((g2.cut lo hi).mono l'), hQ⟩
   have hdrop : sizeOk (.seq (cut lo hi vs).toArray) := by
     show (cut lo hi vs).toArray.size <= sizeLine; have := cut_len lo hi vs; rw [size_toArray]; lia
   have fin' : Post VR C P Q (.ref s.heap.objs.size) { s with heap := s.heap.push { cls := .type "tuple", data := .seq (((List.toArray vs).toList.drop (lo.elim 0 (clipAt (List.toArray vs).size))).take (hi.elim (List.toArray vs).size (clipAt (List.toArray vs).size) - lo.elim 0 (clipAt (List.toArray vs).size))).toArray } } := by
     simpa [cut] using fin
   have hdrop' : sizeOk (.seq (((List.toArray vs).toList.drop (lo.elim 0 (clipAt (List.toArray vs).size))).take (hi.elim (List.toArray vs).size (clipAt (List.toArray vs).size) - lo.elim 0 (clipAt (List.toArray vs).size))).toArray) := by
     simpa [cut] using hdrop
   first
     | exact wpAny_bind (m := Builtin.Tuple.tupleExact _) (wpAny_newObj_type (wpAny_pure ⟨_, rfl, wpAny_pure fin'⟩) hdrop')
     | exact wpAny_bind (m := Builtin.Tuple.tupleExact _) (wpAny_newObj_type (wpAny_bind (wpAny_pure (wpAny_pure ⟨_, rfl, wpAny_pure fin'⟩))) hdrop')
     | exact wpAny_bind (wpAny_bind (m := Builtin.Tuple.tupleExact _) (wpAny_newObj_type (wpAny_pure (wpAny_pure ⟨_, rfl, wpAny_pure fin'⟩)) hdrop'))
     | exact wpAny_bind (wpAny_bind (m := Builtin.Tuple.tupleExact _) (wpAny_newObj_type (wpAny_pure ⟨_, rfl, wpAny_pure fin'⟩) hdrop'))
theorem st_tuple_slice {value : Expr} {up lw : Option Expr} {p : Pos} {ds : List AV} {l u : Value} (h : Op2 VR C A getItem (.tuple ds) (.obj (slO l u)) σ Q) : Op2 VR C A (subscriptTail value (.Slice lw up none p)) (.tuple ds) (.obj (slO l u)) σ Q := by
 intro P s v u S r r'; have g := h P s v u S r r'; obtain ⟨a, vs, rfl, g1, g2⟩ := tup_get S r; exact tail_any g1.typeIs slot_tuple_getitem.lookup g rfl
theorem cv_len_list {ds : List AV} (hd : RdL σ d ds) (hz : ds.length <= sizeLine) (hQ : Q (.int ds.length) σ) : CallV C A (.val (.builtin "len")) [d] [] σ Q := by
 refine CallV.v1 fun P s v0 S r => ?_; obtain ⟨a, vs, rfl, g1, g2⟩ := hd.isList S r; rw [sizeLine_eq] at hz; refine call_len_list g1 (by rw [size_toArray, g2.length]; lia) ?_; rw [size_toArray, g2.length]; exact Post.mk (S.toks _) (.int _ _) hQ
theorem cv_len_tuple {ds : List AV} (hz : ds.length <= sizeLine) (hQ : Q (.int ds.length) σ) : CallV C A (.val (.builtin "len")) [.tuple ds] [] σ Q := by
 refine CallV.v1 fun P s v0 S r => ?_; obtain ⟨a, vs, rfl, g1, g2⟩ := tup_get S r; rw [sizeLine_eq] at hz; refine PyProof.Rows.len_tuple g1 (by rw [size_toArray, g2.length]; lia) ?_; rw [size_toArray, g2.length]; exact Post.mk (S.toks _) (.int _ _) hQ
theorem cv_append {D : Addr} {out : List AV} {e : AV} (hu : Upd σ D (.list out) (.list (out ++ [e])) σ') (hz : out.length <= sizeLine) (hQ : Q .none σ') : CallV C A (.val (.builtin "list.append")) [.val (.ref D), e] [] σ Q := by
 refine CallV.v2 fun P s v0 v1 S r0 r => ?_; obtain rfl := r0.val_inv; exact app_list S hu r hz fun s' S' => Post.mk S' .none hQ
theorem cv_pop {D : Addr} {out : List AV} {e : AV} (hu : Upd σ D (.list (out ++ [e])) (.list out) σ') (hz : out.length < sizeLine) (hQ : Q e σ') : CallV C A (.val (.builtin "list.pop")) [.val (.ref D)] [] σ Q := by
 refine CallV.v1 fun P s v0 S r0 => ?_; obtain rfl := r0.val_inv; obtain ⟨vs, n, h1, h2⟩ := S.ents _ hu.mem; have hlen := h2.length; obtain ⟨v, hv, rv⟩ := h2.get (k := out.length) (d := e) (by simp); have hl2 : vs.length = out.length + 1 := by simpa using hlen
 have hl : (vs.toArray).size - 1 = out.length := by rw [size_toArray, hl2]; rfl
 refine call_meets PySem.F.slot_list_pop ⟨_, h1, rfl⟩ PySem.F.entry_list_pop (PySem.F.args_list_pop_1 _) (PySem.MeetsSeq.list_pop_last D vs.toArray n v (by rw [hl]; simpa using hv) (by rw [size_toArray, hl2]; lia)) ⟨h1, ?_⟩; have hb := Heap.SameBut.update s.heap D (Obj.mapSeq fun xs => xs.eraseIdxIfInBounds (vs.toArray.size - 1)); obtain ⟨c, hc⟩ : ∃ c, (s.heap.update D (Obj.mapSeq fun xs => xs.eraseIdxIfInBounds (vs.toArray.size - 1))).get? D = some (seqObj "list" (vs.toArray.eraseIdxIfInBounds (vs.toArray.size - 1)) c) := ⟨_, get?_update_seq h1 fun xs => xs.eraseIdxIfInBounds (vs.toArray.size - 1)⟩
 have S' := S.upd hu (h' := s.heap.update D (Obj.mapSeq fun xs => xs.eraseIdxIfInBounds (vs.toArray.size - 1))) s.toks hb.extBut ⟨vs.take out.length, c, by
   rw [hc, hl]
   have : vs.toArray.eraseIdxIfInBounds out.length = (vs.take out.length).toArray := by
     apply Array.ext'; rw [Array.toList_eraseIdxIfInBounds, List.eraseIdx_eq_take_drop_succ]; simp [drop_of_length_le, hl2]
   rw [this], by have := h2.take out.length; simpa using this⟩
 exact Post.mk S' rv hQ
theorem cv_insert {D : Addr} {out : List AV} {e : AV} {i : Int} (hu : Upd σ D (.list out) (.list (out.take i.toNat ++ e :: out.drop i.toNat)) σ') (h0 : 0 <= i) (h1 : i.toNat <= out.length) (hz : out.length <= sizeLine) (hQ : Q .none σ') :
   CallV C A (.val (.builtin "list.insert")) [.val (.ref D), .int i, e] [] σ Q := by
 refine CallV.v3 fun P s v0 v1 v S r0 ri r => ?_; obtain rfl := r0.val_inv; obtain ⟨t, rfl⟩ := ri.int_inv; obtain ⟨vs, n, g1, g2⟩ := S.ents _ hu.mem; have hlen := g2.length; have hz' := hz; rw [sizeLine_eq] at hz'; refine call_meets PySem.F.slot_list_insert ⟨_, g1, rfl⟩ PySem.F.entry_list_insert (PySem.F.args_list_insert_3 _ _ _) (PySem.AutoSeq1.list_insert_list_int_val_1 D vs.toArray n i t v ?_ (by rw [size_toArray, hlen]; exact hz)) ⟨g1, ?_⟩
 . unfold Builtin.List.listFitsIndex
   simp; exact ⟨Int.le_trans (by decide) h0, Int.lt_of_le_of_lt (Int.toNat_le.mp (le_trans h1 hz')) (by decide)⟩
 let g : Array Value -> Array Value := fun xs => (xs.extract 0 (if i < 0 then (i + (xs.size : Int)).toNat else min i.toNat xs.size)).push v ++ xs.extract (if i < 0 then (i + (xs.size : Int)).toNat else min i.toNat xs.size)
 have hb := Heap.SameBut.update s.heap D (Obj.mapSeq g); obtain ⟨c, hc⟩ : ∃ c, (s.heap.update D (Obj.mapSeq g)).get? D = some (seqObj "list" (g vs.toArray) c) := ⟨_, get?_update_seq g1 g⟩
 have S' := S.upd hu (h' := s.heap.update D (Obj.mapSeq g)) s.toks hb.extBut ⟨vs.take i.toNat ++ v :: vs.drop i.toNat, c, by
   rw [hc]
   have : g vs.toArray = (vs.take i.toNat ++ v :: vs.drop i.toNat).toArray := by
     have hn : ¬ i < 0 := by lia
     have hm : min i.toNat vs.length = i.toNat := by lia
     apply Array.ext'; simp only [g, hn, if_false, size_toArray, hm]; simp [take_of_length_le]
   rw [this], (g2.take _).append (.cons r (g2.drop _))⟩
 exact Post.mk S' .none hQ
theorem cv_abs {i : Int} (hQ : Q (.int (if i < 0 then -i else i)) σ) : CallV C A (.val (.builtin "abs")) [.int i] [] σ Q := by
 refine CallV.v1 fun P s v0 S r0 => ?_; obtain ⟨t, rfl⟩ := r0.int_inv; exact call_abs_int fun u tk => Post.mk (S.toks _) (.int _ _) hQ
theorem cv_ord {c : Nat} (hQ : Q (.int c) σ) : CallV C A (.val (.builtin "ord")) [.str ⟨#[c]⟩] [] σ Q := by
 refine CallV.v1 fun P s v0 S r0 => ?_; obtain ⟨t, rfl⟩ := r0.str_inv; exact PySem.P.ord_of_char (Post.mk (S.toks _) (.int _ _) hQ)
theorem cv_isinst_int_tuple {i : Int} (hQ : Q (.bool false) σ) : CallV C A (.val (.builtin "isinstance")) [.int i, .val (.type "tuple")] [] σ Q := by
 refine CallV.v2 fun P s v0 v1 S r0 r1 => ?_; obtain ⟨t, rfl⟩ := r0.int_inv; obtain rfl := r1.val_inv; exact PySem.IsiPair.int_tuple (Post.mk (S.toks _) (.bool _) hQ)
theorem cv_tuple {ds : List AV} (hd : RdL σ d ds) (hz : ds.length <= sizeLine) (hQ : Q (.tuple ds) σ) : CallV C A (.val (.type "tuple")) [d] [] σ Q := by
 refine CallV.v1 fun P s v0 S r => ?_; obtain ⟨a, vs, rfl, g1, g2⟩ := hd.isList S r; refine call_tuple_list g1 (fun h' hk => ?_) (by rw [size_toArray, g2.length]; exact hz); have S' := S.heap (h' := h') s.toks hk; obtain ⟨l', S₃⟩ := frozen_new (h := s.heap) S' (o := tupO vs 0) rfl s.toks; exact ⟨_, _, _, l', S₃, .tuple (addP_self _ _ _) rfl rfl (g2.mono l'), hQ⟩
end
end
section
section
variable {C : Cx} {A : Around} {σ σ' : St} {P : Pool} {s : Shared}
theorem Wp.weaken {α β : Type} {R : Pool -> α -> β -> Prop} {t : Sem α} {a : Addr} {ds : List AV} {Q : β -> St -> Prop} (hu : Upd σ a (.list ds) (.wlist ds) σ') (h : Wp R C A t σ' Q) : Wp R C A t σ Q := by
 intro P s S
 obtain ⟨σ₁, σ₂, rfl, rfl⟩ := hu.split
 have S' : Sat C P (σ₁ ++ (a, .wlist ds) :: σ₂) { s with heap := s.heap, toks := s.toks } := S.at s.toks (fun b o _ e => e) (by
   obtain ⟨vs, n, h1, h2⟩ := S.ents (a, .list ds) (by simp); exact ⟨_, vs, n, h1, rfl, rfl, h2⟩)
 exact h P s S'
theorem freeze_wlist {D : Addr} {ds : List AV} (S : Sat C P ((D, .wlist ds) :: σ) s) : ∃ P', PLe P P' /\ Sat C P' σ s /\ VR P' (.ref D) (.wlist ds) := by
 obtain ⟨o, ho, S', l⟩ := S.freeze; obtain ⟨o', vs, n, h1, h2, h3, h4⟩ := S.ents _ mem_cons_self; rw [h1] at ho; cases ho; exact ⟨_, l, S', .wlist (addP_self _ _ _) h2 h3 (h4.mono l)⟩
inductive Frz : AEnt -> AV -> Prop
 | list (ds : List AV) : Frz (.list ds) (.list ds)
 | wlist (ds : List AV) : Frz (.wlist ds) (.wlist ds)
 | dict (ds : List (Int × AV)) : Frz (.dict ds) (.dict ds)
theorem freeze_any {D : Addr} {e : AEnt} {d : AV} (hf : Frz e d) (S : Sat C P ((D, e) :: σ) s) : ∃ P', PLe P P' /\ Sat C P' σ s /\ VR P' (.ref D) d := by
 cases hf with
 | list ds => exact freeze_list S
 | wlist ds => exact freeze_wlist S
 | dict ds => exact freeze_dict S
inductive FrzQ (Q : AV -> St -> Prop) : AV -> St -> Prop
 | intro (a : Addr) (e : AEnt) (d' : AV) (σ : St) (h1 : Frz e d') (h2 : Q d' σ) : FrzQ Q (.val (.ref a)) ((a, e) :: σ)
theorem callV_freeze {f : AV} {ds : List AV} {ks : List (Str × AV)} (h : CallV C A f ds ks σ (FrzQ Q)) : CallV C A f ds ks σ Q := by
 intro P s v vs kvs S r rs rk; refine wpAny_mono (h P s v vs kvs S r rs rk) (fun u s' h => ?_) fun _ _ x => x; obtain ⟨P', b', σ', l, S', r', h⟩ := h; obtain ⟨a, e, d', σ'', hf, hq⟩ := h; obtain rfl := r'.val_inv; obtain ⟨P'', l', S'', r''⟩ := freeze_any hf S'; exact ⟨P'', d', σ'', l.trans l', S'', r'', hq⟩
end
section
variable {C : Cx} {A : Around} {σ : St} (X : Wd C)
structure Drawn (l : List Int) : Prop where
 five : l.length = 5
 low : ∀ x ∈ l, 0 <= x /\ x <= 100000000
theorem drawn_call (hA : AOk 2 A) {d : AV} {ns : List Int} (hd : d = .list (ns.map AV.int) \/ d = .wlist (ns.map AV.int)) (hl : ns.length <= 63) (hQ : ∀ l, Drawn l -> Q (.wlist (l.map AV.int)) σ) : CallV C A (.fn X.drawn) [d] [] σ Q := by
 refine callV_freeze ?_; have hf' : DefFd X.drawn _ _ _ := X.d_drawn.1; refine callV_plain X.G hA hf' X.d_drawn.2 ["script"] ["drawn", "place", "number"] (by decide) (by walk_at "b") rfl ?_; intro L A' env hA' hE _; clear hf'; have hrd : ∀ σ, RdL σ d (ns.map AV.int) := fun σ => by rcases hd with rfl | rfl <;> constructor
 walk_at "g"; refine ev_list_new ?_; iterate 11 walk_at "e"
 refine ⟨by decide, fun a => ?_⟩; walk_at "a"; refine' Wp.weaken (a := a) (ds := [AV.int 7, AV.int 16, AV.int 178, AV.int 40, AV.int 18]) (by walk_at "m") ?_; refine exs_cons ?_
 refine ex_for (X := Option AV × Option AV × List Int) (τ := σ) (fun x => [(a, .wlist (x.2.2.map AV.int)), (L, .ns [("script", some d), ("drawn", some (.val (.ref a))), ("place", x.1), ("number", x.2.1)])])
   (fun rest x => x.2.2.length = 5 /\ ∃ k, k <= 60 /\ rest = enumD k (((cut none (some 60) ns).map AV.int).drop k) /\ ∀ y ∈ x.2.2, 0 <= y /\ y <= 1000 + k * 1000000)
   (fun _ => False) (fun _ _ => False) ?_ ?_ ?_ (fun _ _ h => h.elim) (fun _ => rfl)
 . refine evIter_call (T := "enumerate") ?_ rfl rfl ⟨_, _, rfl⟩; walk_at "e"; refine ⟨rfl, ?_⟩; iterate 3 walk_at "e"
   refine ev_slice (ev_part_none (ev_part_some (const_int ⟨none, some 60, .none, .int _, fun l u hlo hup => ?_⟩))); refine st_list_slice (hrd _) (gi_list_slice (hrd _) hlo hup (by rw [length_map]; exact le_trans hl (by decide)) ?_); walk_at "e"; refine ⟨_, mkc_enum_list hA'.handled (.inl rfl), ?_⟩; refine ⟨(none, none, [7, 16, 178, 40, 18]), rfl, rfl, 0, zero_le _, ?_, by decide⟩; rw [List.drop_zero]
   congr 1
   simp [cut]
 . rintro dd rest ⟨p, n, l⟩ τ' ⟨h5, k, hk, hr, hb⟩ K hK; dsimp only at h5 hb ⊢
   obtain ⟨v, r', hv⟩ : ∃ v r', ((cut none (some 60) ns).map AV.int).drop k = AV.int v :: r' := by
     cases hc : (cut none (some 60) ns).drop k with
     | nil => rw [<- map_drop, hc] at hr; cases hr
     | cons v r => exact ⟨v, r.map AV.int, by rw [<- map_drop, hc]; rfl⟩
   rw [hv] at hr; obtain ⟨rfl, rfl⟩ : dd = .tuple [.int k, .int v] /\ rest = enumD (k + 1) r' := by cases hr; exact ⟨rfl, rfl⟩
   have hk60 : k < 60 := by
     have h1 : k < ((cut none (some 60) ns).map AV.int).length := by
       exact Nat.lt_of_not_le fun q => by rw [List.drop_eq_nil_of_le q] at hv; cases hv
     have h2 : ((cut none (some 60) ns).map AV.int).length <= 60 := by
       rw [length_map]; unfold cut; show (take (clipAt ns.length ((60 : Nat) : Int)) _).length <= 60; rw [clipAt_nat]; exact le_trans (List.length_take_le _ _) (Nat.min_le_left _ _)
     exact lt_of_lt_of_le h1 h2
   refine as_tuple hA'.handled rfl rfl ?_; walk_at "a"; walk_at "a"; refine exs_cons (ex_aug_sub ?_ (fun _ _ _ => rfl)); iterate 4 walk_at "e"
   refine bin_mod ?_ (by decide); have hm := emB (k : Int) (n := 5) (by decide); have hlt : ((k : Int) % 5).toNat < l.length := by rw [h5]; exact (toNat_lt hm.1).mpr hm.2
   refine gi_list (ds := l.map AV.int) (.ledW (by walk_at "m")) hm.1 (Int.lt_trans hm.2 (by decide)) (e := .int (l[((k : Int) % 5).toNat])) (by rw [getElem?_map, getElem?_eq_getElem hlt]; rfl) ?_; iterate 3 walk_at "e"
   refine bin_mod ?_ (by decide); refine inpl_add ?_; refine' si_list (by walk_at "m") hm.1 (by rw [length_map, h5]; exact hm.2) (by rw [length_map, h5]; decide) ?_; refine exs_nil ?_; refine hK _ _ ⟨(some (.int k), some (.int v), l.set ((k : Int) % 5).toNat (l[((k : Int) % 5).toNat] + v % 1000000)), ?_, by rw [List.length_set]; exact h5, k + 1, hk60, ?_, ?_⟩
   . rw [List.map_set]; exact List.Sublist.refl _
   . rw [show ((cut none (some 60) ns).map AV.int).drop (k + 1) = r' by rw [<- List.drop_drop, hv]; rfl]
   . intro y hy; have hnn := List.mem_or_eq_of_mem_set hy; rw [Int.natCast_add, Int.add_mul, <- Int.add_assoc]; rcases hnn with h | rfl
     . exact (hb y h).imp id fun x => Int.le_trans x (Int.le_add_of_nonneg_right (by decide))
     . have := hb _ (getElem_mem hlt); exact ⟨Int.add_nonneg this.1 (emB v (by decide)).1, Int.add_le_add this.2 (Int.le_of_lt (emB v (by decide)).2)⟩
 . rintro ⟨p, n, l⟩ (⟨h5, k, hk, hr, hb⟩ | h)
   . dsimp only at h5 hb ⊢; refine exs_cons (ex_return ?_); walk_at "e"; refine ⟨_, (a, .wlist (l.map AV.int)) :: σ, rfl, (sublist_cons_self _ _).cons_cons _, a, _, _, _, .wlist _, hQ l ⟨h5, fun x hx => ?_⟩⟩; exact (hb x hx).imp id fun q => Int.le_trans q (Int.le_trans (Int.add_le_add_left (Int.mul_le_mul_of_nonneg_right (Int.ofNat_le.mpr hk) (by decide)) _) (by decide))
   . exact h.elim
end
end
section
section
variable {C : Cx} {A : Around} {σ : St} (X : Wd C)
structure Cut (p : Nat -> Bool) (n r : Nat) : Prop where
 le : r <= n
 is : ∀ i, i < n -> p i = decide (i < r)
theorem Cut.up {p : Nat -> Bool} {n r m : Nat} (h : Cut p n r) (hm : m < n) (hp : p m = true) : m + 1 <= r := by
 have := h.is m hm; rw [hp] at this; exact of_decide_eq_true this.symm
theorem Cut.dn {p : Nat -> Bool} {n r m : Nat} (h : Cut p n r) (hm : m < n) (hp : p m = false) : r <= m := by
 have := h.is m hm; rw [hp] at this; exact Nat.le_of_not_lt (of_decide_eq_false this.symm)
inductive BisI (r len : Nat) (L : Addr) (d : AV) (x : Int) (key : AV) (σ : St) : Nat -> St -> Prop
 | mk (lo hi : Nat) (m : Option AV) (h1 : lo <= r) (h2 : r <= hi) (h3 : hi <= len) :
   BisI r len L d x key σ (hi - lo) ((L, .ns [("a", some d), ("x", some (.int x)), ("lo", some (.int lo)), ("hi", some (.int hi)), ("key", some key), ("mid", m)]) :: σ)
theorem mid_lo {lo hi mid : Nat} (h : (lo : Int) < hi) (hm : mid = (lo + hi) / 2) : lo <= mid /\ mid < hi := hm ▸ mid2 (Int.ofNat_lt.mp h)
theorem mid_cast {lo hi mid : Nat} (hm : mid = (lo + hi) / 2) : ((lo : Int) + hi) / 2 = (mid : Int) := hm ▸ rfl
structure SeekD (C : Cx) (fd : FuncData) : Prop where
 dflt : ∃ T o n t, fd.defaults = .ref T /\ C.P₀ T = some o /\ o.data = .seq #[.int 0 t, .none] n
 kwd : ∃ D m, fd.kwdefaults = .ref D /\ (∀ h : Heap, (∀ a o, C.P₀ a = some o -> h.get? a = some o) -> h.Ns D m) /\ m "key" = some .none
noncomputable def KeyOk (C : Cx) (n : Nat) (σ : St) (key : AV) (ds : List AV) (kv : Nat -> Int) : Prop :=
 (∃ fd, key = .fn fd) /\ ∀ A' τ (Q : AV -> St -> Prop) i d, AOk n A' -> (∀ q ∈ σ, q ∈ τ) -> ds[i]? = some d -> Q (.int (kv i)) τ -> CallV C A' key [d] [] τ Q
theorem bisL_body {params : Arguments} {body : List PySem.Stmt} {sc : Scope} (hf : DefFd X.bisL params body sc) {n : Nat} {A' : Around} (hA : AOk n A') {L : Addr} {env : Env} (hE : EnvIs env L sc.names []) {d key : AV} {ds : List AV} {x : Int} {p : Nat -> Bool} {kv : Nat -> Int} {r : Nat}
   (hd : ∀ τ, (∀ q ∈ σ, q ∈ τ) -> RdL τ d ds) (hz : ds.length <= sizeLine) (hkey : (key = .none /\ ∀ i, i < ds.length -> ds[i]? = some (.int (kv i))) \/ KeyOk C n σ key ds kv) (hp : ∀ i, i < ds.length -> p i = decide (kv i < x)) (hc : Cut p ds.length r) {Q : AV -> St -> Prop} (hQ : Q (.int r) σ) :
   Ef C A' (execs body env) ((L, .ns [("a", some d), ("x", some (.int x)), ("lo", some (.int 0)), ("hi", some .none), ("key", some key), ("mid", none)]) :: σ) (RetQ Q) := by
 have hf' : DefFd X.bisL _ _ _ := X.d_bisL; have e1 := hf.body.symm.trans hf'.body; have e2 := hf.scope.symm.trans hf'.scope; cases e1; subst e2; clear hf' hf; refine exs_cons (ex_if ?_); iterate 3 walk_at "e"
 refine cmp_lt ⟨_, rfl, ?_⟩; refine if_f (by decide) ?_; refine exs_nil (exs_cons (ex_if ?_)); iterate 3 walk_at "e"
 refine cmp_is_none ⟨_, rfl, ?_⟩; refine if_t rfl ?_; walk_at "g"; iterate 2 walk_at "e"
 refine ⟨.inl rfl, .builtin _, ?_⟩; iterate 3 walk_at "e"
 refine kw_nil ?_; refine cv_len_list (hd _ fun q hq => mem_cons_of_mem _ hq) hz ?_; walk_at "a"; refine exs_nil (exs_cons (ex_if ?_)); iterate 3 walk_at "e"
 rcases hkey with ⟨rfl, hds⟩ | ⟨⟨kfd, rfl⟩, hk2⟩
 . refine cmp_is_none ⟨_, rfl, ?_⟩; refine if_t rfl ?_; refine exs_cons (ex_while (BisI r ds.length L d x .none σ) ds.length (.mk 0 ds.length none (zero_le _) hc.le (le_refl _)) ?_); rintro n₁ σ₁ ⟨lo, hi, m, h1, h2, h3⟩ K hK; iterate 3 walk_at "e"
   refine cmp_lt ⟨_, rfl, ?_⟩; by_cases hlh : (lo : Int) < hi
   . refine if_t (by simpa using hlh) ?_; walk_at "g"; iterate 4 walk_at "e"
     refine bin_add ?_; walk_at "e"; refine bin_div ?_ (by decide) (by decide); obtain ⟨mid, hm⟩ : ∃ mid : Nat, mid = (lo + hi) / 2 := ⟨_, rfl⟩; rw [mid_cast hm]; walk_at "a"; have hml := mid_lo hlh hm; have hmn := lt_of_lt_of_le hml.2 h3; have hz' : mid < 1000000000 := lt_of_lt_of_le hmn (le_trans hz (by rw [sizeLine_eq]; decide)); refine exs_cons (ex_if ?_); iterate 4 walk_at "e"
     refine st_listN (hd _ fun q hq => mem_cons_of_mem _ hq) hz' (hds mid hmn) (fun _ _ => rfl) ?_; walk_at "e"; refine cmp_lt ⟨_, rfl, ?_⟩; by_cases hlt : kv mid < x
     . refine if_t (by simpa using hlt) ?_; have hpm : p mid = true := by rw [hp mid hmn]; simp [hlt]
       walk_at "g"; iterate 3 walk_at "e"
       refine bin_add ?_; walk_at "a"; exact exs_nil (exs_nil (hK _ _ ⟨_, sub_lt_sub_left (lt_of_le_of_lt hml.1 hml.2) (lt_succ_of_le hml.1), mid + 1, hi, _, hc.up hmn hpm, h2, h3⟩))
     . refine if_f (by simpa using hlt) ?_; have hpm : p mid = false := by rw [hp mid hmn]; simp; lia
       walk_at "g"; walk_at "e"; walk_at "a"; exact exs_nil (exs_nil (hK _ _ ⟨_, Nat.sub_lt_sub_right hml.1 hml.2, lo, mid, _, h1, hc.dn hmn hpm, le_of_lt hmn⟩))
   . refine if_f (by simpa using hlh) ?_; refine exs_nil (exs_nil ?_); refine exs_cons (ex_return ?_); walk_at "e"; refine ⟨_, _, rfl, sublist_cons_self _ _, ?_⟩; rw [show lo = r from le_antisymm h1 (le_trans h2 (Int.ofNat_le.mp (Int.not_lt.mp hlh)))]; exact hQ
 . refine cmp_is_none_ne ⟨_, rfl, ?_⟩ (fun P v r => by rintro rfl; cases r); refine if_f (by decide) ?_; refine exs_cons (ex_while (BisI r ds.length L d x (.fn kfd) σ) ds.length (.mk 0 ds.length none (zero_le _) hc.le (le_refl _)) ?_); rintro n₁ σ₁ ⟨lo, hi, m, h1, h2, h3⟩ K hK; iterate 3 walk_at "e"
   refine cmp_lt ⟨_, rfl, ?_⟩; by_cases hlh : (lo : Int) < hi
   . refine if_t (by simpa using hlh) ?_; walk_at "g"; iterate 4 walk_at "e"
     refine bin_add ?_; walk_at "e"; refine bin_div ?_ (by decide) (by decide); obtain ⟨mid, hm⟩ : ∃ mid : Nat, mid = (lo + hi) / 2 := ⟨_, rfl⟩; rw [mid_cast hm]; walk_at "a"; have hml := mid_lo hlh hm; have hmn := lt_of_lt_of_le hml.2 h3; have hz' : mid < 1000000000 := lt_of_lt_of_le hmn (le_trans hz (by rw [sizeLine_eq]; decide)); obtain ⟨e, he⟩ : ∃ e, ds[mid]? = some e := ⟨_, getElem?_eq_getElem hmn⟩; refine exs_cons (ex_if ?_); iterate 3 walk_at "e"
     refine ⟨.inl rfl, .fn _, ?_⟩; iterate 4 walk_at "e"
     refine st_listN (hd _ fun q hq => mem_cons_of_mem _ hq) hz' he (fun _ _ => rfl) ?_; walk_at "e"; refine kw_nil ?_; refine hk2 A' _ _ mid e hA (fun q hq => mem_cons_of_mem _ hq) he ?_; walk_at "e"; refine cmp_lt ⟨_, rfl, ?_⟩; by_cases hlt : kv mid < x
     . refine if_t (by simpa using hlt) ?_; have hpm : p mid = true := by rw [hp mid hmn]; simp [hlt]
       walk_at "g"; iterate 3 walk_at "e"
       refine bin_add ?_; walk_at "a"; exact exs_nil (exs_nil (hK _ _ ⟨_, sub_lt_sub_left (lt_of_le_of_lt hml.1 hml.2) (lt_succ_of_le hml.1), mid + 1, hi, _, hc.up hmn hpm, h2, h3⟩))
     . refine if_f (by simpa using hlt) ?_; have hpm : p mid = false := by rw [hp mid hmn]; simp; lia
       walk_at "g"; walk_at "e"; walk_at "a"; exact exs_nil (exs_nil (hK _ _ ⟨_, Nat.sub_lt_sub_right hml.1 hml.2, lo, mid, _, h1, hc.dn hmn hpm, le_of_lt hmn⟩))
   . refine if_f (by simpa using hlh) ?_; refine exs_nil (exs_nil ?_); refine exs_cons (ex_return ?_); walk_at "e"; refine ⟨_, _, rfl, sublist_cons_self _ _, ?_⟩; rw [show lo = r from le_antisymm h1 (le_trans h2 (Int.ofNat_le.mp (Int.not_lt.mp hlh)))]; exact hQ
theorem bisR_body {params : Arguments} {body : List PySem.Stmt} {sc : Scope} (hf : DefFd X.bisR params body sc) {n : Nat} {A' : Around} (hA : AOk n A') {L : Addr} {env : Env} (hE : EnvIs env L sc.names []) {d key : AV} {ds : List AV} {x : Int} {p : Nat -> Bool} {kv : Nat -> Int} {r : Nat}
   (hd : ∀ τ, (∀ q ∈ σ, q ∈ τ) -> RdL τ d ds) (hz : ds.length <= sizeLine) (hkey : (key = .none /\ ∀ i, i < ds.length -> ds[i]? = some (.int (kv i))) \/ KeyOk C n σ key ds kv) (hp : ∀ i, i < ds.length -> p i = !decide (x < kv i)) (hc : Cut p ds.length r) {Q : AV -> St -> Prop} (hQ : Q (.int r) σ) :
   Ef C A' (execs body env) ((L, .ns [("a", some d), ("x", some (.int x)), ("lo", some (.int 0)), ("hi", some .none), ("key", some key), ("mid", none)]) :: σ) (RetQ Q) := by
 have hf' : DefFd X.bisR _ _ _ := X.d_bisR; have e1 := hf.body.symm.trans hf'.body; have e2 := hf.scope.symm.trans hf'.scope; cases e1; subst e2; clear hf' hf; refine exs_cons (ex_if ?_); iterate 3 walk_at "e"
 refine cmp_lt ⟨_, rfl, ?_⟩; refine if_f (by decide) ?_; refine exs_nil (exs_cons (ex_if ?_)); iterate 3 walk_at "e"
 refine cmp_is_none ⟨_, rfl, ?_⟩; refine if_t rfl ?_; walk_at "g"; iterate 2 walk_at "e"
 refine ⟨.inl rfl, .builtin _, ?_⟩; iterate 3 walk_at "e"
 refine kw_nil ?_; refine cv_len_list (hd _ fun q hq => mem_cons_of_mem _ hq) hz ?_; walk_at "a"; refine exs_nil (exs_cons (ex_if ?_)); iterate 3 walk_at "e"
 rcases hkey with ⟨rfl, hds⟩ | ⟨⟨kfd, rfl⟩, hk2⟩
 . refine cmp_is_none ⟨_, rfl, ?_⟩; refine if_t rfl ?_; refine exs_cons (ex_while (BisI r ds.length L d x .none σ) ds.length (.mk 0 ds.length none (zero_le _) hc.le (le_refl _)) ?_); rintro n₁ σ₁ ⟨lo, hi, m, h1, h2, h3⟩ K hK; iterate 3 walk_at "e"
   refine cmp_lt ⟨_, rfl, ?_⟩; by_cases hlh : (lo : Int) < hi
   . refine if_t (by simpa using hlh) ?_; walk_at "g"; iterate 4 walk_at "e"
     refine bin_add ?_; walk_at "e"; refine bin_div ?_ (by decide) (by decide); obtain ⟨mid, hm⟩ : ∃ mid : Nat, mid = (lo + hi) / 2 := ⟨_, rfl⟩; rw [mid_cast hm]; walk_at "a"; have hml := mid_lo hlh hm; have hmn := lt_of_lt_of_le hml.2 h3; have hz' : mid < 1000000000 := lt_of_lt_of_le hmn (le_trans hz (by rw [sizeLine_eq]; decide)); refine exs_cons (ex_if ?_); iterate 5 walk_at "e"
     refine st_listN (hd _ fun q hq => mem_cons_of_mem _ hq) hz' (hds mid hmn) (fun _ _ => rfl) ?_; refine cmp_lt ⟨_, rfl, ?_⟩; by_cases hlt : x < kv mid
     . refine if_t (by simpa using hlt) ?_; have hpm : p mid = false := by rw [hp mid hmn]; simp [hlt]
       walk_at "g"; walk_at "e"; walk_at "a"; exact exs_nil (exs_nil (hK _ _ ⟨_, Nat.sub_lt_sub_right hml.1 hml.2, lo, mid, _, h1, hc.dn hmn hpm, le_of_lt hmn⟩))
     . refine if_f (by simpa using hlt) ?_; have hpm : p mid = true := by rw [hp mid hmn]; simp; lia
       walk_at "g"; iterate 3 walk_at "e"
       refine bin_add ?_; walk_at "a"; exact exs_nil (exs_nil (hK _ _ ⟨_, sub_lt_sub_left (lt_of_le_of_lt hml.1 hml.2) (lt_succ_of_le hml.1), mid + 1, hi, _, hc.up hmn hpm, h2, h3⟩))
   . refine if_f (by simpa using hlh) ?_; refine exs_nil (exs_nil ?_); refine exs_cons (ex_return ?_); walk_at "e"; refine ⟨_, _, rfl, sublist_cons_self _ _, ?_⟩; rw [show lo = r from le_antisymm h1 (le_trans h2 (Int.ofNat_le.mp (Int.not_lt.mp hlh)))]; exact hQ
 . refine cmp_is_none_ne ⟨_, rfl, ?_⟩ (fun P v r => by rintro rfl; cases r); refine if_f (by decide) ?_; refine exs_cons (ex_while (BisI r ds.length L d x (.fn kfd) σ) ds.length (.mk 0 ds.length none (zero_le _) hc.le (le_refl _)) ?_); rintro n₁ σ₁ ⟨lo, hi, m, h1, h2, h3⟩ K hK; iterate 3 walk_at "e"
   refine cmp_lt ⟨_, rfl, ?_⟩; by_cases hlh : (lo : Int) < hi
   . refine if_t (by simpa using hlh) ?_; walk_at "g"; iterate 4 walk_at "e"
     refine bin_add ?_; walk_at "e"; refine bin_div ?_ (by decide) (by decide); obtain ⟨mid, hm⟩ : ∃ mid : Nat, mid = (lo + hi) / 2 := ⟨_, rfl⟩; rw [mid_cast hm]; walk_at "a"; have hml := mid_lo hlh hm; have hmn := lt_of_lt_of_le hml.2 h3; have hz' : mid < 1000000000 := lt_of_lt_of_le hmn (le_trans hz (by rw [sizeLine_eq]; decide)); obtain ⟨e, he⟩ : ∃ e, ds[mid]? = some e := ⟨_, getElem?_eq_getElem hmn⟩; refine exs_cons (ex_if ?_); iterate 4 walk_at "e"
     refine ⟨.inl rfl, .fn _, ?_⟩; iterate 4 walk_at "e"
     refine st_listN (hd _ fun q hq => mem_cons_of_mem _ hq) hz' he (fun _ _ => rfl) ?_; walk_at "e"; refine kw_nil ?_; refine hk2 A' _ _ mid e hA (fun q hq => mem_cons_of_mem _ hq) he ?_; refine cmp_lt ⟨_, rfl, ?_⟩; by_cases hlt : x < kv mid
     . refine if_t (by simpa using hlt) ?_; have hpm : p mid = false := by rw [hp mid hmn]; simp [hlt]
       walk_at "g"; walk_at "e"; walk_at "a"; exact exs_nil (exs_nil (hK _ _ ⟨_, Nat.sub_lt_sub_right hml.1 hml.2, lo, mid, _, h1, hc.dn hmn hpm, le_of_lt hmn⟩))
     . refine if_f (by simpa using hlt) ?_; have hpm : p mid = true := by rw [hp mid hmn]; simp; lia
       walk_at "g"; iterate 3 walk_at "e"
       refine bin_add ?_; walk_at "a"; exact exs_nil (exs_nil (hK _ _ ⟨_, sub_lt_sub_left (lt_of_le_of_lt hml.1 hml.2) (lt_succ_of_le hml.1), mid + 1, hi, _, hc.up hmn hpm, h2, h3⟩))
   . refine if_f (by simpa using hlh) ?_; refine exs_nil (exs_nil ?_); refine exs_cons (ex_return ?_); walk_at "e"; refine ⟨_, _, rfl, sublist_cons_self _ _, ?_⟩; rw [show lo = r from le_antisymm h1 (le_trans h2 (Int.ofNat_le.mp (Int.not_lt.mp hlh)))]; exact hQ
end
end
section
section
variable {C : Cx} {A : Around} {σ : St} (X : Wd C)
noncomputable abbrev SeekP (p : Arguments) : Prop := ∃ p1 p2 p3 p4 p5 kd df, p = ⟨[], [⟨"a", none, p1⟩, ⟨"x", none, p2⟩, ⟨"lo", none, p3⟩, ⟨"hi", none, p4⟩], none, [⟨"key", none, p5⟩], kd, none, df⟩
theorem seek_binds_2 {fd : FuncData} (hp : SeekP fd.params) (hs : SeekD C fd) {a x : AV} : BindsA C fd [a, x] [] [("a", a), ("x", x), ("lo", .int 0), ("hi", .none), ("key", .none)] := by
 intro P s vs kvs hP hpool rs rk; cases rk; obtain ⟨_, _, _, _, _, _, _, _, _, _, _, _, _, _, _⟩ := fd; obtain ⟨p1, p2, p3, p4, p5, kd, df, e⟩ := hp; obtain ⟨⟨T, o, n, t, d1, d2, d3⟩, D, m, k1, k2, k3⟩ := hs; dsimp only at e d1 k1; subst e d1 k1; obtain ⟨va, vx, rfl, ra, rx⟩ := rs.inv2; refine ⟨[("a", va), ("x", vx), ("lo", .int 0 t), ("hi", .none), ("key", .none)], fun M A E Q q => ?_, .cons ra (.cons rx (.cons (.int _ _) (.cons .none (.cons .none .nil))))⟩; refine wpAny_bind (m := seqItems? (.ref T)) (wpAny_seqItems (hpool _ _ (hP _ _ d2)) d3 ?_); have key : ∀ {K : Option Value -> Shared -> Prop}, K (some .none) s -> wpAny M A (nsGet D "key") K E s := fun hk => wpAny_nsGet (k2 _ fun b o e => hpool _ _ (hP _ _ e)) (k3 ▸ hk); refine wpAny_bind (wpAny_of_eq (a := ([("a", va), ("x", vx), ("lo", .int 0 t), ("hi", .none)] : List (Str × Value))) rfl ?_); refine wpAny_bind ?_; refine wpAny_bind ?_; refine wpAny_bind (key ?_); exact wpAny_pure (wpAny_pure (wpAny_pure q))
theorem seek_binds_2k {fd : FuncData} (hp : SeekP fd.params) (hs : SeekD C fd) {a x key : AV} : BindsA C fd [a, x] [("key", key)] [("a", a), ("x", x), ("lo", .int 0), ("hi", .none), ("key", key)] := by
 intro P s vs kvs hP hpool rs rk; obtain _ | @⟨_, vk, _, _, _, rkey, _ | _⟩ := rk; obtain ⟨_, _, _, _, _, _, _, _, _, _, _, _, _, _, _⟩ := fd; obtain ⟨p1, p2, p3, p4, p5, kd, df, e⟩ := hp; obtain ⟨⟨T, o, n, t, d1, d2, d3⟩, D, m, k1, k2, k3⟩ := hs; dsimp only at e d1 k1; subst e d1 k1; obtain ⟨va, vx, rfl, ra, rx⟩ := rs.inv2; refine ⟨[("a", va), ("x", vx), ("lo", .int 0 t), ("hi", .none), ("key", vk)], fun M A E Q q => ?_, .cons ra (.cons rx (.cons (.int _ _) (.cons .none (.cons rkey .nil))))⟩; refine wpAny_bind (m := seqItems? (.ref T)) (wpAny_seqItems (hpool _ _ (hP _ _ d2)) d3 ?_); exact wpAny_of_eq (a := ([("a", va), ("x", vx), ("lo", .int 0 t), ("hi", .none), ("key", vk)] : List (Str × Value))) rfl q
theorem seek_binds_4 {fd : FuncData} (hp : SeekP fd.params) (hs : SeekD C fd) {a x lo hi : AV} : BindsA C fd [a, x, lo, hi] [] [("a", a), ("x", x), ("lo", lo), ("hi", hi), ("key", .none)] := by
 intro P s vs kvs hP hpool rs rk; cases rk; obtain ⟨_, _, _, _, _, _, _, _, _, _, _, _, _, _, _⟩ := fd; obtain ⟨p1, p2, p3, p4, p5, kd, df, e⟩ := hp; obtain ⟨⟨T, o, n, t, d1, d2, d3⟩, D, m, k1, k2, k3⟩ := hs; dsimp only at e d1 k1; subst e d1 k1; obtain ⟨va, vx, vlo, vhi, rfl, ra, rx, rlo, rhi⟩ := rs.inv4; refine ⟨[("a", va), ("x", vx), ("lo", vlo), ("hi", vhi), ("key", .none)], fun M A E Q q => ?_, .cons ra (.cons rx (.cons rlo (.cons rhi (.cons .none .nil))))⟩; refine wpAny_bind (m := seqItems? (.ref T)) (wpAny_seqItems (hpool _ _ (hP _ _ d2)) d3 ?_); have key : ∀ {K : Option Value -> Shared -> Prop}, K (some .none) s -> wpAny M A (nsGet D "key") K E s := fun hk => wpAny_nsGet (k2 _ fun b o e => hpool _ _ (hP _ _ e)) (k3 ▸ hk); refine wpAny_bind (wpAny_of_eq (a := ([("a", va), ("x", vx), ("lo", vlo), ("hi", vhi)] : List (Str × Value))) rfl ?_); refine wpAny_bind ?_; refine wpAny_bind ?_; refine wpAny_bind (key ?_); exact wpAny_pure (wpAny_pure (wpAny_pure q))
theorem seek_binds_4k {fd : FuncData} (hp : SeekP fd.params) (hs : SeekD C fd) {a x lo hi key : AV} : BindsA C fd [a, x, lo, hi] [("key", key)] [("a", a), ("x", x), ("lo", lo), ("hi", hi), ("key", key)] := by
 intro P s vs kvs hP hpool rs rk; obtain _ | @⟨_, vk, _, _, _, rkey, _ | _⟩ := rk; obtain ⟨_, _, _, _, _, _, _, _, _, _, _, _, _, _, _⟩ := fd; obtain ⟨p1, p2, p3, p4, p5, kd, df, e⟩ := hp; obtain ⟨⟨T, o, n, t, d1, d2, d3⟩, D, m, k1, k2, k3⟩ := hs; dsimp only at e d1 k1; subst e d1 k1; obtain ⟨va, vx, vlo, vhi, rfl, ra, rx, rlo, rhi⟩ := rs.inv4; refine ⟨[("a", va), ("x", vx), ("lo", vlo), ("hi", vhi), ("key", vk)], fun M A E Q q => ?_, .cons ra (.cons rx (.cons rlo (.cons rhi (.cons rkey .nil))))⟩; refine wpAny_bind (m := seqItems? (.ref T)) (wpAny_seqItems (hpool _ _ (hP _ _ d2)) d3 ?_); exact wpAny_of_eq (a := ([("a", va), ("x", vx), ("lo", vlo), ("hi", vhi), ("key", vk)] : List (Str × Value))) rfl q
theorem scope_seek (sc : Scope) (h : defB sc ["a", "x", "lo", "hi", "key"] ["mid"] = true) : ScopeOk sc /\ (∀ x ∈ sc.names, x.2 ≠ .cell) /\ (∀ x ∈ (["a", "x", "lo", "hi", "key"] : List Str), (x, NameKind.local) ∈ sc.names) := by
 unfold defB at h; simp only [Bool.and_eq_true, decide_eq_true_eq] at h; obtain ⟨⟨⟨h1, h2⟩, h3⟩, h4⟩ := h; exact ⟨scopeOk_of h1, h2, fun x hx => h3 x (mem_append_left _ hx)⟩
theorem seek_call {fd : FuncData} {params : Arguments} {body : List PySem.Stmt} {sc : Scope} (hf : DefFd fd params body sc) (hp : SeekP params) (hs : SeekD C fd) (hsc : defB sc ["a", "x", "lo", "hi", "key"] ["mid"] = true) {n : Nat} (hA : AOk (n + 1) A) {ds : List AV} {ks : List (Str × AV)} {a x lo hi key : AV}
   (hb : BindsA C fd ds ks [("a", a), ("x", x), ("lo", lo), ("hi", hi), ("key", key)]) {Q : AV -> St -> Prop} (G : Gl C [])
   (h : ∀ L A' env, AOk n A' -> EnvIs env L sc.names [] -> Ef C A' (execs body env) ((L, .ns [("a", some a), ("x", some x), ("lo", some lo), ("hi", some hi), ("key", some key), ("mid", none)]) :: σ) (RetQ Q)) : CallV C A (.fn fd) ds ks σ Q := by
 obtain ⟨f1, f2, f3, f4, f5, f6⟩ := hf; obtain ⟨s1, s2, s3⟩ := scope_seek sc hsc; refine callV_def (m0 := [("a", some a), ("x", some x), ("lo", some lo), ("hi", some hi), ("key", some key), ("mid", none)]) G hA f1 (f3 ▸ s1) (f3 ▸ s2) f4 f5 f6 hb ?_ (show (["a", "x", "lo", "hi", "key"] : List Str).Nodup by decide) (show (["a", "x", "lo", "hi", "key", "mid"] : List Str).Nodup by decide) ?_ (f3 ▸ fun L A' env h1 h2 _ => h L A' env h1 h2)
 . intro y hy; rw [f3]; refine s3 _ ?_
   have := mem_map_of_mem (f := (·.1)) hy
   exact this
 . intro y av hy; simp only [mem_cons, Prod.mk.injEq, not_mem_nil, or_false, Option.some.injEq] at hy ⊢; rcases hy with ⟨h1, h2⟩ | ⟨h1, h2⟩ | ⟨h1, h2⟩ | ⟨h1, h2⟩ | ⟨h1, h2⟩ | ⟨h1, h2⟩
   . exact .inl ⟨h1, h2⟩
   . exact .inr (.inl ⟨h1, h2⟩)
   . exact .inr (.inr (.inl ⟨h1, h2⟩))
   . exact .inr (.inr (.inr (.inl ⟨h1, h2⟩)))
   . exact .inr (.inr (.inr (.inr ⟨h1, h2⟩)))
   . cases h2
theorem bisL_call (hs : SeekD C X.bisL) {n : Nat} (hA : AOk (n + 1) A) {d key : AV} {ks : List (Str × AV)} {ds : List AV} {x : Int} {p : Nat -> Bool} {kv : Nat -> Int} {r : Nat} (hk : (ks = [] /\ key = .none) \/ ks = [(("key" : Str), key)])
   (hd : ∀ τ, (∀ q ∈ σ, q ∈ τ) -> RdL τ d ds) (hz : ds.length <= sizeLine) (hkey : (key = .none /\ ∀ i, i < ds.length -> ds[i]? = some (.int (kv i))) \/ KeyOk C n σ key ds kv) (hp : ∀ i, i < ds.length -> p i = decide (kv i < x)) (hc : Cut p ds.length r) {Q : AV -> St -> Prop} (hQ : Q (.int r) σ) : CallV C A (.fn X.bisL) [d, .int x] ks σ Q := by
 have hf' : DefFd X.bisL _ _ _ := X.d_bisL; have hp2 := hf'.params; have hP : SeekP X.bisL.params := by rw [hp2]; exact ⟨_, _, _, _, _, _, _, rfl⟩
 rcases hk with ⟨rfl, rfl⟩ | rfl
 . exact seek_call hf' (hp2 ▸ hP) hs (by decide) hA (seek_binds_2 hP hs) X.G fun L A' env h1 h2 => bisL_body X hf' h1 h2 hd hz hkey hp hc hQ
 . exact seek_call hf' (hp2 ▸ hP) hs (by decide) hA (seek_binds_2k hP hs) X.G fun L A' env h1 h2 => bisL_body X hf' h1 h2 hd hz hkey hp hc hQ
theorem bisL_call4 (hs : SeekD C X.bisL) {n : Nat} (hA : AOk (n + 1) A) {d key : AV} {ks : List (Str × AV)} {ds : List AV} {x : Int} {p : Nat -> Bool} {kv : Nat -> Int} {r : Nat} (hk : (ks = [] /\ key = .none) \/ ks = [(("key" : Str), key)])
   (hd : ∀ τ, (∀ q ∈ σ, q ∈ τ) -> RdL τ d ds) (hz : ds.length <= sizeLine) (hkey : (key = .none /\ ∀ i, i < ds.length -> ds[i]? = some (.int (kv i))) \/ KeyOk C n σ key ds kv) (hp : ∀ i, i < ds.length -> p i = decide (kv i < x)) (hc : Cut p ds.length r) {Q : AV -> St -> Prop} (hQ : Q (.int r) σ) : CallV C A (.fn X.bisL) [d, .int x, .int 0, .none] ks σ Q := by
 have hf' : DefFd X.bisL _ _ _ := X.d_bisL; have hp2 := hf'.params; have hP : SeekP X.bisL.params := by rw [hp2]; exact ⟨_, _, _, _, _, _, _, rfl⟩
 rcases hk with ⟨rfl, rfl⟩ | rfl
 . exact seek_call hf' (hp2 ▸ hP) hs (by decide) hA (seek_binds_4 hP hs) X.G fun L A' env h1 h2 => bisL_body X hf' h1 h2 hd hz hkey hp hc hQ
 . exact seek_call hf' (hp2 ▸ hP) hs (by decide) hA (seek_binds_4k hP hs) X.G fun L A' env h1 h2 => bisL_body X hf' h1 h2 hd hz hkey hp hc hQ
theorem bisR_call4 (hs : SeekD C X.bisR) {n : Nat} (hA : AOk (n + 1) A) {d key : AV} {ks : List (Str × AV)} {ds : List AV} {x : Int} {p : Nat -> Bool} {kv : Nat -> Int} {r : Nat} (hk : (ks = [] /\ key = .none) \/ ks = [(("key" : Str), key)])
   (hd : ∀ τ, (∀ q ∈ σ, q ∈ τ) -> RdL τ d ds) (hz : ds.length <= sizeLine) (hkey : (key = .none /\ ∀ i, i < ds.length -> ds[i]? = some (.int (kv i))) \/ KeyOk C n σ key ds kv) (hp : ∀ i, i < ds.length -> p i = !decide (x < kv i)) (hc : Cut p ds.length r) {Q : AV -> St -> Prop} (hQ : Q (.int r) σ) : CallV C A (.fn X.bisR) [d, .int x, .int 0, .none] ks σ Q := by
 have hf' : DefFd X.bisR _ _ _ := X.d_bisR; have hp2 := hf'.params; have hP : SeekP X.bisR.params := by rw [hp2]; exact ⟨_, _, _, _, _, _, _, rfl⟩
 rcases hk with ⟨rfl, rfl⟩ | rfl
 . exact seek_call hf' (hp2 ▸ hP) hs (by decide) hA (seek_binds_4 hP hs) X.G fun L A' env h1 h2 => bisR_body X hf' h1 h2 hd hz hkey hp hc hQ
 . exact seek_call hf' (hp2 ▸ hP) hs (by decide) hA (seek_binds_4k hP hs) X.G fun L A' env h1 h2 => bisR_body X hf' h1 h2 hd hz hkey hp hc hQ
end
end
section
section
variable {C : Cx} {A : Around} {σ σ' : St} {env : Env} {pos : Pos}
theorem ex_expr {e : Expr} {L : Addr} {names : List (Str × NameKind)} {cells : List (Str × Addr)} {Q : AFlow -> St -> Prop} (h : Ev C A (eval e env) σ fun d σ₁ => d = .none /\ Q .next σ₁) (hE : EnvIs env L names cells) (hs : swapsWith e none pos.line env = pure false) : Ef C A (exec (.Expr e pos) env) σ Q := by
 intro P s S
 have hi : interactive env = false := by
   unfold interactive; rw [hE.kind]; rfl
 refine wpAny_Expr (h.run S fun P₁ v d σ₁ s₁ l₁ S₁ r₁ hzz => ?_) hi hs; obtain ⟨e1, q₁⟩ := hzz; subst e1; obtain rfl := r₁.none_inv
 exact ⟨P₁, .next, σ₁, l₁, S₁, .next, q₁⟩
end
section
variable {C : Cx} {A : Around} {σ σ' : St} (X : Wd C)
theorem insR_call (hs : SeekD C X.insR) (hs2 : SeekD C X.bisR) {n : Nat} (hA : AOk (n + 2) A) {D : Addr} {key e : AV} {ks : List (Str × AV)} {ds : List AV} {x : Int} {p : Nat -> Bool} {kv : Nat -> Int} {r : Nat} (hu : Upd σ D (.list ds) (.list (ds.take r ++ e :: ds.drop r)) σ')
   (hz : ds.length <= sizeLine) (hkey : (ks = [] /\ key = .none /\ e = .int x /\ ∀ i, i < ds.length -> ds[i]? = some (.int (kv i))) \/ (ks = [(("key" : Str), key)] /\ KeyOk C n σ key ds kv /\ ∀ A' τ (Q : AV -> St -> Prop), AOk n A' -> (∀ q ∈ σ, q ∈ τ) -> Q (.int x) τ -> CallV C A' key [e] [] τ Q))
   (hp : ∀ i, i < ds.length -> p i = !decide (x < kv i)) (hc : Cut p ds.length r) {Q : AV -> St -> Prop} (hQ : Q .none σ') : CallV C A (.fn X.insR) [.val (.ref D), e] ks σ Q := by
 have hf' : DefFd X.insR _ _ _ := X.d_insR; have hp2 := hf'.params; have hP : SeekP X.insR.params := by rw [hp2]; exact ⟨_, _, _, _, _, _, _, rfl⟩
 have hP := hp2 ▸ hP; have hz' := hz; rw [sizeLine_eq] at hz'; have hin : ∀ (τ : St), (∀ q ∈ σ, q ∈ τ) -> RdL τ (.val (.ref D)) ds := fun τ h => .led (h _ hu.mem)
 have hgo : BindsA C X.insR [.val (.ref D), e] ks [("a", .val (.ref D)), ("x", e), ("lo", .int 0), ("hi", .none), ("key", key)] := by
   rcases hkey with ⟨rfl, rfl, _⟩ | ⟨rfl, _⟩
   . exact seek_binds_2 (hp2 ▸ hP) hs
   . exact seek_binds_2k (hp2 ▸ hP) hs
 obtain ⟨f1, f2, f3, f4, f5, f6⟩ := hf'; refine callV_def (m0 := [("a", some (.val (.ref D))), ("x", some e), ("lo", some (.int 0)), ("hi", some .none), ("key", some key)]) X.G hA f1 (f3 ▸ scopeOk_of (by decide)) (f3 ▸ by decide) f4 f5 f6 hgo ?_ (show (["a", "x", "lo", "hi", "key"] : List Str).Nodup by decide) (show (["a", "x", "lo", "hi", "key"] : List Str).Nodup by decide) ?_ ?_
 . intro y hy; rw [f3]; have h3 : ∀ x ∈ (["a", "x", "lo", "hi", "key"] : List Str), (x, NameKind.local) ∈ (([("a", .local), ("x", .local), ("lo", .local), ("hi", .local), ("key", .local), ("bisect_right", .globalImplicit)] : List (Str × NameKind))) := by decide
   exact h3 _ (mem_map_of_mem (f := (·.1)) hy)
 . intro y av hy; simp only [mem_cons, Prod.mk.injEq, not_mem_nil, or_false, Option.some.injEq] at hy ⊢; exact hy
 . intro L A' env hA' hE _; rw [f3] at hE
   refine exs_cons (Wp.mono (Q := fun f σ₁ => f = AFlow.next /\ ∃ k, σ₁ = (L, .ns [("a", some (.val (.ref D))), ("x", some e), ("lo", some (.int r)), ("hi", some .none), ("key", some k)]) :: σ) (ex_if ?_) (fun f σ₁ hfin => ?_))
   rotate_left
   . obtain ⟨rfl, k, rfl⟩ := hfin; refine exs_cons (ex_expr ?_ hE rfl); refine ev_mcall ?_ rfl rfl ⟨_, _, rfl⟩; walk_at "e"; refine ⟨_, _, meth_list (mem_cons_of_mem _ hu.mem) PySem.F.slot_list_insert PySem.F.type_list_insert, .builtin _, ?_⟩; iterate 5 walk_at "e"
     refine kw_nil ?_; refine cv_insert (i := (r : Int)) (Upd.there hu) (natCast_nonneg r) (show r <= _ from hc.le) hz ?_; exact ⟨rfl, exs_nil ⟨_, _, rfl, sublist_cons_self _ _, hQ⟩⟩
   iterate 3 walk_at "e"
   rcases hkey with ⟨rfl, rfl, rfl, hds⟩ | ⟨rfl, hk, hke⟩
   . refine cmp_is_none ⟨_, rfl, ?_⟩; refine if_t rfl ?_; walk_at "g"; iterate 2 walk_at "e"
     refine ⟨.inl rfl, .fn _, ?_⟩; iterate 9 walk_at "e"
     refine kw_nil ?_; refine bisR_call4 (σ := _ :: σ) (p := p) X hs2 hA' (.inl ⟨rfl, rfl⟩) (fun τ h => hin τ fun q hq => h q (mem_cons_of_mem _ hq)) hz (.inl ⟨rfl, hds⟩) hp hc ?_; walk_at "a"; exact exs_nil ⟨rfl, _, rfl⟩
   . have hkfd := hk.1; obtain ⟨kfd, rfl⟩ := hkfd; refine cmp_is_none_ne ⟨_, rfl, ?_⟩ (fun P v r => by rintro rfl; cases r); refine if_f (by decide) ?_; walk_at "g"; iterate 2 walk_at "e"
     refine ⟨.inr (fun T h => by cases h), .fn _, ?_⟩; iterate 5 walk_at "e"
     refine ⟨.inl rfl, .fn _, ?_⟩; iterate 3 walk_at "e"
     refine kw_nil ?_; refine hke A' _ _ (hA'.le (by lia)) (fun q hq => mem_cons_of_mem _ hq) ?_; iterate 5 walk_at "e"
     refine kw_cons ?_; walk_at "e"; refine kw_nil ?_; refine bisR_call4 (σ := _ :: σ) (p := p) (key := .fn kfd) (x := x) X hs2 hA' (.inr rfl) (fun τ h => hin τ fun q hq => h q (mem_cons_of_mem _ hq)) hz (.inr ⟨⟨_, rfl⟩, fun A'' τ Q' i d hA'' hτ hd hq => hk.2 A'' τ Q' i d (hA''.le (by lia)) (fun q hq => hτ q (mem_cons_of_mem _ hq)) hd hq⟩) hp hc ?_; walk_at "a"; exact exs_nil ⟨rfl, _, rfl⟩
theorem insL_call (hs : SeekD C X.insL) (hs2 : SeekD C X.bisL) {n : Nat} (hA : AOk (n + 2) A) {D : Addr} {key e : AV} {ks : List (Str × AV)} {ds : List AV} {x : Int} {p : Nat -> Bool} {kv : Nat -> Int} {r : Nat} (hu : Upd σ D (.list ds) (.list (ds.take r ++ e :: ds.drop r)) σ')
   (hz : ds.length <= sizeLine) (hkey : (ks = [] /\ key = .none /\ e = .int x /\ ∀ i, i < ds.length -> ds[i]? = some (.int (kv i))) \/ (ks = [(("key" : Str), key)] /\ KeyOk C n σ key ds kv /\ ∀ A' τ (Q : AV -> St -> Prop), AOk n A' -> (∀ q ∈ σ, q ∈ τ) -> Q (.int x) τ -> CallV C A' key [e] [] τ Q))
   (hp : ∀ i, i < ds.length -> p i = decide (kv i < x)) (hc : Cut p ds.length r) {Q : AV -> St -> Prop} (hQ : Q .none σ') : CallV C A (.fn X.insL) [.val (.ref D), e] ks σ Q := by
 have hf' : DefFd X.insL _ _ _ := X.d_insL; have hp2 := hf'.params; have hP : SeekP X.insL.params := by rw [hp2]; exact ⟨_, _, _, _, _, _, _, rfl⟩
 have hP := hp2 ▸ hP; have hz' := hz; rw [sizeLine_eq] at hz'; have hin : ∀ (τ : St), (∀ q ∈ σ, q ∈ τ) -> RdL τ (.val (.ref D)) ds := fun τ h => .led (h _ hu.mem)
 have hgo : BindsA C X.insL [.val (.ref D), e] ks [("a", .val (.ref D)), ("x", e), ("lo", .int 0), ("hi", .none), ("key", key)] := by
   rcases hkey with ⟨rfl, rfl, _⟩ | ⟨rfl, _⟩
   . exact seek_binds_2 (hp2 ▸ hP) hs
   . exact seek_binds_2k (hp2 ▸ hP) hs
 obtain ⟨f1, f2, f3, f4, f5, f6⟩ := hf'; refine callV_def (m0 := [("a", some (.val (.ref D))), ("x", some e), ("lo", some (.int 0)), ("hi", some .none), ("key", some key)]) X.G hA f1 (f3 ▸ scopeOk_of (by decide)) (f3 ▸ by decide) f4 f5 f6 hgo ?_ (show (["a", "x", "lo", "hi", "key"] : List Str).Nodup by decide) (show (["a", "x", "lo", "hi", "key"] : List Str).Nodup by decide) ?_ ?_
 . intro y hy; rw [f3]; have h3 : ∀ x ∈ (["a", "x", "lo", "hi", "key"] : List Str), (x, NameKind.local) ∈ (([("a", .local), ("x", .local), ("lo", .local), ("hi", .local), ("key", .local), ("bisect_left", .globalImplicit)] : List (Str × NameKind))) := by decide
   exact h3 _ (mem_map_of_mem (f := (·.1)) hy)
 . intro y av hy; simp only [mem_cons, Prod.mk.injEq, not_mem_nil, or_false, Option.some.injEq] at hy ⊢; exact hy
 . intro L A' env hA' hE _; rw [f3] at hE
   refine exs_cons (Wp.mono (Q := fun f σ₁ => f = AFlow.next /\ ∃ k, σ₁ = (L, .ns [("a", some (.val (.ref D))), ("x", some e), ("lo", some (.int r)), ("hi", some .none), ("key", some k)]) :: σ) (ex_if ?_) (fun f σ₁ hfin => ?_))
   rotate_left
   . obtain ⟨rfl, k, rfl⟩ := hfin; refine exs_cons (ex_expr ?_ hE rfl); refine ev_mcall ?_ rfl rfl ⟨_, _, rfl⟩; walk_at "e"; refine ⟨_, _, meth_list (mem_cons_of_mem _ hu.mem) PySem.F.slot_list_insert PySem.F.type_list_insert, .builtin _, ?_⟩; iterate 5 walk_at "e"
     refine kw_nil ?_; refine cv_insert (i := (r : Int)) (Upd.there hu) (natCast_nonneg r) (show r <= _ from hc.le) hz ?_; exact ⟨rfl, exs_nil ⟨_, _, rfl, sublist_cons_self _ _, hQ⟩⟩
   iterate 3 walk_at "e"
   rcases hkey with ⟨rfl, rfl, rfl, hds⟩ | ⟨rfl, hk, hke⟩
   . refine cmp_is_none ⟨_, rfl, ?_⟩; refine if_t rfl ?_; walk_at "g"; iterate 2 walk_at "e"
     refine ⟨.inl rfl, .fn _, ?_⟩; iterate 9 walk_at "e"
     refine kw_nil ?_; refine bisL_call4 (σ := _ :: σ) (p := p) X hs2 hA' (.inl ⟨rfl, rfl⟩) (fun τ h => hin τ fun q hq => h q (mem_cons_of_mem _ hq)) hz (.inl ⟨rfl, hds⟩) hp hc ?_; walk_at "a"; exact exs_nil ⟨rfl, _, rfl⟩
   . have hkfd := hk.1; obtain ⟨kfd, rfl⟩ := hkfd; refine cmp_is_none_ne ⟨_, rfl, ?_⟩ (fun P v r => by rintro rfl; cases r); refine if_f (by decide) ?_; walk_at "g"; iterate 2 walk_at "e"
     refine ⟨.inr (fun T h => by cases h), .fn _, ?_⟩; iterate 5 walk_at "e"
     refine ⟨.inl rfl, .fn _, ?_⟩; iterate 3 walk_at "e"
     refine kw_nil ?_; refine hke A' _ _ (hA'.le (by lia)) (fun q hq => mem_cons_of_mem _ hq) ?_; iterate 5 walk_at "e"
     refine kw_cons ?_; walk_at "e"; refine kw_nil ?_; refine bisL_call4 (σ := _ :: σ) (p := p) (key := .fn kfd) (x := x) X hs2 hA' (.inr rfl) (fun τ h => hin τ fun q hq => h q (mem_cons_of_mem _ hq)) hz (.inr ⟨⟨_, rfl⟩, fun A'' τ Q' i d hA'' hτ hd hq => hk.2 A'' τ Q' i d (hA''.le (by lia)) (fun q hq => hτ q (mem_cons_of_mem _ hq)) hd hq⟩) hp hc ?_; walk_at "a"; exact exs_nil ⟨rfl, _, rfl⟩
end
end
section
section
variable {C : Cx} {A : Around} {σ σ' : St} {env : Env} {pos : Pos}
theorem sat_newdict (hG : Gl C []) {P : Pool} {s : Shared} (S : Sat C P σ s) : Sat C P ((s.heap.objs.size, .dict []) :: σ) { s with heap := s.heap.push { cls := .type "dict", data := .dict #[] } } := by
 obtain ⟨b₁, o, hb₁, ho⟩ := hG.sysm
 have hq : (s.heap.objs.size == sysModules) = false := beq_eq_false_iff_ne.mpr fun e => by
   have := Heap.lt_size (S.old _ _ ho); rw [e] at this; exact absurd hb₁ (Nat.not_le.mpr this)
 exact S.new (e := .dict []) (Heap.get?_none_of_le (le_refl _)) s.toks (fun b o e => Heap.get?_push_of_some _ e) ⟨hq, _, [], 0, Heap.get?_push_size _ rfl, ⟨rfl, rfl, rfl⟩, rfl, .nil, by simp⟩
theorem ev_dict_new (hG : Gl C []) (h : ∀ a, Q (.val (.ref a)) ((a, .dict []) :: σ)) : Ev C A (eval (.Dict [] [] pos) env) σ Q := by
 intro P s S; exact wpAny_Dict_empty ⟨P, _, _, PLe.refl _, sat_newdict hG S, .val _, h _⟩
theorem ev_dict1 {k v : Expr} (hG : Gl C []) (h : ∀ a, Ev C A (eval k env) ((a, .dict []) :: σ) fun x σ₁ => Ev C A (eval v env) σ₁ fun y σ₂ => ∃ i σ₃, x = .int i /\ σ₂ = (a, .dict []) :: σ₃ /\ Q (.dict [(i, y)]) σ₃) : Ev C A (eval (.Dict [some k] [v] pos) env) σ Q := by
 intro P s S; refine wpAny_Dict_any rfl rfl (by simp) (by simp) ?_
 show wpAny _ _ (do let kv <- eval k env; let vv <- holding [kv] (do let x <- eval v env; standAt pos; pure x); return (kv, vv) :: (<- holding [kv, vv] (evalPairs []))) _ _ _
 refine wpAny_bind ((h _).run (sat_newdict hG S) fun P₁ v₁ x σ₁ s₁ l₁ S₁ r₁ q₁ => ?_); refine wpAny_bind (wpAny_holding (wpAny_bind (q₁.run S₁ fun P₂ v₂ y σ₂ s₂ l₂ S₂ r₂ q₂ => wpAny_bind (wpAny_standAt (wpAny_pure ?_))))); refine wpAny_bind (wpAny_holding (wpAny_pure (wpAny_pure ?_))); obtain ⟨i, σ₃, rfl, rfl, hq⟩ := q₂
 show wpAny _ _ (forIn [(v₁, v₂)] PUnit.unit fun (x : Value × Value) (_ : PUnit) => (do dictSet s.heap.objs.size x.1 x.2; pure (ForInStep.yield PUnit.unit) : Sem (ForInStep PUnit))) _ _ _
 rw [List.forIn_cons]; refine wpAny_bind (wpAny_bind (put_dict S₂ .here (r₁.mono l₂) r₂ (zero_le _) fun s₃ S₃ => wpAny_pure ?_)); refine wpAny_pure ?_; obtain ⟨P₄, l₄, S₄, r₄⟩ := freeze_dict S₃; exact ⟨P₄, _, σ₃, (l₁.trans l₂).trans l₄, S₄, r₄, hq⟩
theorem in_dict_led {ds : List (Int × AV)} {k : Int} {d : AV} (hd : RdD σ d ds) (hQ : Q (.bool (gGet ds k).isSome) σ) : Op2 VR C A (compareOp .In) (.int k) d σ Q := in_dict hd hQ
end
section
variable {C : Cx} {A : Around} {σ σ' : St} (X : Wd C)
noncomputable abbrev dI (l : List (Int × Int)) : List (Int × AV) := l.map fun p => (p.1, AV.int p.2)
noncomputable def iAdd (l : List (Int × Int)) (p : Int × Int) : List (Int × Int) := match gGet l p.1 with
 | some v => gPut l p.1 (v + p.2)
 | none => gPut l p.1 p.2
theorem iAdd_len (l : List (Int × Int)) (p : Int × Int) : (iAdd l p).length <= l.length + 1 := by
 unfold iAdd; split <;> exact gPut_len
noncomputable def addC (t s : List (Int × Int)) : List (Int × Int) := s.foldl iAdd (t.foldl (fun l p => gPut l p.1 p.2) [])
noncomputable def putF (t : List (Int × Int)) : List (Int × Int) := t.foldl (fun l p => gPut l p.1 p.2) []
noncomputable def addF' (t s : List (Int × Int)) : List (Int × Int) := s.foldl iAdd (putF t)
theorem foldl_len {f : List (Int × Int) -> Int × Int -> List (Int × Int)} (hf : ∀ l p, (f l p).length <= l.length + 1) : ∀ (s l : List (Int × Int)), (s.foldl f l).length <= l.length + s.length
 | [], l => le_refl _
 | p :: s, l => le_trans (foldl_len hf s (f l p)) (le_trans (add_le_add_right (hf l p) _) (le_of_eq (add_right_comm _ _ _)))
theorem putF_len (t : List (Int × Int)) : (putF t).length <= t.length := by
 have := foldl_len (fun l p => gPut_len (l := l) (k := p.1) (d := p.2)) t []; rwa [length_nil, zero_add] at this
theorem addF'_len (t s : List (Int × Int)) : (addF' t s).length <= t.length + s.length :=
 le_trans (foldl_len iAdd_len s (putF t)) (add_le_add_right (putF_len t) _)
theorem addC_len (t s : List (Int × Int)) : (addC t s).length <= t.length + s.length := addF'_len t s
inductive AddI (t s : List (Int × Int)) (a L : Addr) (F : List (Int × Int) -> List (Int × Int)) (pre : List (Int × Int)) (τ : St) : St -> Prop
 | mk (f c : Option AV) : AddI t s a L F pre τ ((a, .dict (dI (F pre))) :: (L, .ns [("target", some (.dict (dI t))), ("source", some (.dict (dI s))), ("new_callers", some (.val (.ref a))), ("func", f), ("caller", c)]) :: τ)
theorem AddI.par {t s : List (Int × Int)} {a L : Addr} {F : List (Int × Int) -> List (Int × Int)} {pre : List (Int × Int)} : Par (AddI t s a L F pre) := fun τ σ h => by
 cases h with | mk f c => exact ⟨[_, _], rfl, fun τ' => .mk f c⟩
theorem items_lst (t : List (Int × Int)) : (dI t).map (fun q => AV.tuple [.int q.1, q.2]) = lst (fun _ q => .tuple [.int q.1, .int q.2]) 0 t := by
 rw [<- lst_map (fun q : Int × Int => AV.tuple [.int q.1, .int q.2]) 0 t]; unfold dI; rw [map_map]; rfl
theorem pre_len {α : Type} {l pre post : List α} {a : α} (h : l = pre ++ a :: post) : pre.length <= l.length := by rw [h, length_append]; exact le_add_right _ _
theorem addC_call (hA : AOk 2 A) {t s : List (Int × Int)} (hl : t.length + s.length <= sizeLine) (hQ : Q (.dict (dI (addC t s))) σ) : CallV C A (.fn X.addC) [.dict (dI t), .dict (dI s)] [] σ Q := by
 refine callV_freeze ?_; have hf' : DefFd X.addC _ _ _ := X.d_addC.1; refine callV_plain X.G hA hf' X.d_addC.2 ["target", "source"] ["new_callers", "func", "caller"] (by decide) (by walk_at "b") rfl ?_; intro L A' env hA' hE _; clear hf'; refine Wp.cps fun K0 hK0 => ?_; walk_at "g"; refine ev_dict_new X.G fun a => ?_; walk_at "a"; refine exs_cons ?_; refine ex_forP (τ := σ) t (fun _ q => .tuple [.int q.1, .int q.2]) (AddI t s a L putF) (fun _ _ => False) (fun _ _ _ => False) (fun _ => AddI.par) Par.no (fun _ => Par.no) ?_ ?_ ?_ (fun _ _ h => h.elim) (fun _ => rfl)
 . refine evIter_items hA'.handled ?_ rfl; walk_at "e"; exact ⟨_, rfl, items_lst t, .mk none none⟩
 . rintro pre ⟨k, v⟩ post _ τ' hτ ht ⟨f, c⟩ K hK; have hlt : (dI (putF pre)).length <= sizeLine := by rw [length_map]; exact le_trans (putF_len pre) (le_trans (pre_len ht) (le_trans (le_add_right _ _) hl))
   have e : gPut (dI (putF pre)) k (.int v) = dI (putF (pre ++ [(k, v)])) := by rw [gPut_map]; unfold putF; rw [foldl_append]; rfl
   refine as_tuple hA'.handled rfl rfl ?_; walk_at "a"; walk_at "a"; walk_at "g"; walk_at "e"; refine as_sub ?_; iterate 2 walk_at "e"
   refine si_dict (by walk_at "m") hlt (exs_nil (hK _ _ ?_)); rw [e]; exact ⟨_, .refl _, .mk _ _⟩
 . rintro _ (⟨f, c⟩ | h)
   case inr => exact h.elim
   refine exs_cons ?_; refine ex_forP (τ := σ) s (fun _ q => .tuple [.int q.1, .int q.2]) (AddI t s a L (addF' t)) (fun _ _ => False) (fun _ _ _ => False) (fun _ => AddI.par) Par.no (fun _ => Par.no) ?_ ?_ ?_ (fun _ _ h => h.elim) (fun _ => rfl)
   . refine evIter_items hA'.handled ?_ rfl; walk_at "e"; exact ⟨_, rfl, items_lst s, .mk f c⟩
   . rintro pre ⟨k, v⟩ post _ τ' hτ ht ⟨f, c⟩ K hK; have hlt : (dI (addF' t pre)).length <= sizeLine := by rw [length_map]; exact le_trans (addF'_len t pre) (le_trans (add_le_add_left (pre_len ht) _) hl)
     have fin : ∀ x : Int, iAdd (addF' t pre) (k, v) = gPut (addF' t pre) k x -> gPut (dI (addF' t pre)) k (.int x) = dI (addF' t (pre ++ [(k, v)])) := fun x hx => by
       rw [gPut_map, <- hx]; unfold addF'; rw [foldl_append]; rfl
     refine as_tuple hA'.handled rfl rfl ?_; walk_at "a"; walk_at "a"; refine exs_cons (ex_if ?_); iterate 3 walk_at "e"
     refine in_dict (.led (by walk_at "m")) ⟨_, rfl, ?_⟩; rw [gGet_map]
     cases hg : gGet (addF' t pre) k with
     | some u =>
       refine if_t (show (Option.map AV.int (some u)).isSome = true from rfl) ?_; refine exs_cons (ex_if ?_); iterate 3 walk_at "e"
       refine ⟨.inl rfl, .builtin _, ?_⟩; iterate 5 walk_at "e"
       refine kw_nil ?_; refine cv_isinst_int_tuple (tr_bool ?_); refine if_f (by decide) ?_; refine exs_cons (ex_aug_sub ?_ (fun _ _ _ => rfl)); iterate 2 walk_at "e"
       refine gi_dict (.led (by walk_at "m")) (by rw [gGet_map, hg]; rfl) ?_; walk_at "e"; refine inpl_add ?_; refine si_dict (by walk_at "m") hlt (exs_nil (exs_nil (exs_nil (hK _ _ ?_)))); rw [fin (u + v) (by unfold iAdd; simp [hg])]; exact ⟨_, .refl _, .mk _ _⟩
     | none =>
       refine if_f (show ¬ (Option.map AV.int none).isSome = true by decide) ?_; walk_at "g"; walk_at "e"; refine as_sub ?_; iterate 2 walk_at "e"
       refine si_dict (by walk_at "m") hlt (exs_nil (exs_nil (hK _ _ ?_))); rw [fin v (by unfold iAdd; simp [hg])]; exact ⟨_, .refl _, .mk _ _⟩
   . rintro _ (⟨f, c⟩ | h)
     case inr => exact h.elim
     refine exs_cons (ex_return ?_); walk_at "e"; exact hK0 _ _ ⟨_, (a, .dict (dI (addF' t s))) :: σ, rfl, (sublist_cons_self _ _).cons_cons _, a, _, _, _, .dict _, hQ⟩
noncomputable def sumC (l : List (Int × Int)) : Int := l.foldl (fun n p => n + p.2) 0
inductive CntI (t : List (Int × Int)) (L : Addr) (pre : List (Int × Int)) (τ : St) : St -> Prop
 | mk (c : Option AV) : CntI t L pre τ ((L, .ns [("callers", some (.dict (dI t))), ("nc", some (.int (sumC pre))), ("calls", c)]) :: τ)
theorem cntC_call (hA : AOk 2 A) {t : List (Int × Int)} (hQ : Q (.int (sumC t)) σ) : CallV C A (.fn X.cntC) [.dict (dI t)] [] σ Q := by
 have hf' : DefFd X.cntC _ _ _ := X.d_cntC.1; refine callV_plain X.G hA hf' X.d_cntC.2 ["callers"] ["nc", "calls"] (by decide) (by walk_at "b") rfl ?_; intro L A' env hA' hE _; clear hf'; walk_at "g"; walk_at "e"; walk_at "a"; refine exs_cons ?_; refine ex_forP (τ := σ) t (fun _ q => .int q.2) (CntI t L) (fun _ _ => False) (fun _ _ _ => False) (fun _ τ σ h => by cases h with | mk c => exact ⟨[_], rfl, fun τ' => .mk c⟩) Par.no (fun _ => Par.no) ?_ ?_ ?_ (fun _ _ h => h.elim) (fun _ => rfl)
 . refine evIter_values (.name _ _) hA'.handled ?_ rfl; walk_at "e"; exact ⟨_, rfl, by rw [<- lst_map (fun q : Int × Int => AV.int q.2) 0 t]; unfold dI; rw [map_map]; rfl, .mk none⟩
 . rintro pre ⟨k, v⟩ post _ τ' hτ ht ⟨c⟩ K hK; walk_at "a"; refine exs_cons (ex_aug_name ?_); refine load_loc hE (by walk_at "m") (by walk_at "m") (by walk_at "m") ?_; walk_at "e"; refine inpl_add ?_; refine stl_loc hE (by walk_at "m") (by walk_at "m") (by walk_at "m") ?_; refine exs_nil (hK _ _ ?_); rw [show sumC pre + v = sumC (pre ++ [(k, v)]) by unfold sumC; rw [foldl_append]; rfl]; exact ⟨_, .refl _, .mk _⟩
 . intro σ₁ h; replace h := h.resolve_right id; cases h; refine exs_cons (ex_return ?_); walk_at "e"; exact ⟨_, _, rfl, sublist_cons_self _ _, hQ⟩
end
end
section
section
variable {C : Cx} {A : Around} {σ σ' : St} {env : Env} {pos : Pos}
theorem ev_dict0 (hG : Gl C []) (h : Q (.dict []) σ) : Ev C A (eval (.Dict [] [] pos) env) σ Q := by
 intro P s S; obtain ⟨P₄, l₄, S₄, r₄⟩ := freeze_dict (sat_newdict hG S); exact wpAny_Dict_empty ⟨P₄, _, _, l₄, S₄, r₄, h⟩
end
section
variable {C : Cx} {A : Around} {σ σ' : St} (X : Wd C)
noncomputable def furtS (table : List (Int × Int)) (f : List (Int × Int)) (p : Int × Int) : List (Int × Int) := match gGet table (p.1 / 512) with
 | some t => addC f [(p.2, t)]
 | none => f
noncomputable def furtP (moves table : List (Int × Int)) : List (Int × Int) := moves.foldl (furtS table) []
theorem furtS_len (table f : List (Int × Int)) (p : Int × Int) : (furtS table f p).length <= f.length + 1 := by
 unfold furtS; split
 . exact addC_len _ _
 . lia
theorem furtF_len (table : List (Int × Int)) (pre : List (Int × Int)) : (furtP pre table).length <= pre.length := by
 have := foldl_len (furtS_len table) pre []; rwa [length_nil, zero_add] at this
theorem furtP_snoc {table pre : List (Int × Int)} {p : Int × Int} : furtP (pre ++ [p]) table = furtS table (furtP pre table) p := by unfold furtP; rw [foldl_append]; rfl
inductive FurtI (moves table : List (Int × Int)) (L : Addr) (pre : List (Int × Int)) (τ : St) : St -> Prop
 | mk (c : Option AV) : FurtI moves table L pre τ ((L, .ns [("moves", some (.dict (dI moves))), ("table", some (.dict (dI table))), ("further", some (.dict (dI (furtP pre table)))), ("move", c)]) :: τ)
theorem furt_call (hA : AOk 4 A) {moves table : List (Int × Int)} (hl : moves.length + 1 <= sizeLine) (nd : (moves.map (·.1)).Nodup) (hQ : Q (.dict (dI (furtP moves table))) σ) : CallV C A (.fn X.furt) [.dict (dI moves), .dict (dI table)] [] σ Q := by
 have hf' : DefFd X.furt _ _ _ := X.d_furt.1; refine callV_plain X.G hA hf' X.d_furt.2 ["moves", "table"] ["further", "move"] (by decide) (by walk_at "b") rfl ?_; intro L A' env hA' hE _; clear hf'; walk_at "g"; refine ev_dict0 X.G ?_; walk_at "a"; refine exs_cons ?_; refine ex_forP (τ := σ) moves (fun _ q => .int q.1) (FurtI moves table L) (fun _ _ => False) (fun _ _ _ => False) (fun _ τ σ h => by cases h with | mk c => exact ⟨[_], rfl, fun τ' => .mk c⟩) Par.no (fun _ => Par.no) ?_ ?_ ?_ (fun _ _ h => h.elim) (fun _ => rfl)
 . refine evIter_of ?_; walk_at "e"; exact ⟨_, mk_dict (.name _ _) hA'.handled, by rw [<- lst_map (fun q : Int × Int => AV.int q.1) 0 moves]; unfold dI; rw [map_map]; rfl, .mk none⟩
 . rintro pre ⟨k, v⟩ post _ τ' hτ ht ⟨c⟩ K hK; have hf1 := furtF_len table pre; have hpl := pre_len ht; have hmv : gGet moves k = some v := gGet_mem nd (by rw [ht]; simp); walk_at "a"; refine exs_cons (ex_if ?_); iterate 4 walk_at "e"
   refine bin_div ?_ (by decide) (by decide); walk_at "e"; refine in_dict .frozen ⟨_, rfl, ?_⟩; rw [gGet_map]
   cases hg : gGet table (k / 512) with
   | some u =>
     have e : addC (furtP pre table) [(v, u)] = furtP (pre ++ [(k, v)]) table := by rw [furtP_snoc]; unfold furtS; simp [hg]
     refine if_t (show (Option.map AV.int (some u)).isSome = true from rfl) ?_; walk_at "g"; iterate 2 walk_at "e"
     refine ⟨.inl rfl, .fn _, ?_⟩; iterate 3 walk_at "e"
     refine ev_dict1 X.G fun a => ?_; iterate 3 walk_at "e"
     refine st_dict .frozen (gi_dict .frozen (by rw [gGet_map, hmv]; rfl) ?_) (fun _ _ => rfl); iterate 5 walk_at "e"
     refine bin_div ?_ (by decide) (by decide); refine st_dict .frozen (gi_dict .frozen (by rw [gGet_map, hg]; rfl) ?_) (fun _ _ => rfl); refine ⟨v, _, rfl, rfl, ?_⟩; walk_at "e"; refine kw_nil ?_; refine addC_call (t := furtP pre table) (s := [(v, u)]) X (hA'.le (by decide)) (by rw [length_singleton]; omega) ?_; rw [e]; walk_at "a"; exact exs_nil (exs_nil (hK _ _ ⟨_, .refl _, .mk _⟩))
   | none =>
     have e : furtP pre table = furtP (pre ++ [(k, v)]) table := by rw [furtP_snoc]; unfold furtS; simp [hg]
     refine if_f (show ¬ (Option.map AV.int none).isSome = true by decide) ?_; rw [e]; exact exs_nil (exs_nil (hK _ _ ⟨_, .refl _, .mk _⟩))
 . intro σ₁ h; replace h := h.resolve_right id; cases h; refine exs_cons (ex_return ?_); walk_at "e"; exact ⟨_, _, rfl, sublist_cons_self _ _, hQ⟩
end
end
section
mutual
inductive IsDat : AV -> Dat -> Prop
 | int (i : Int) : IsDat (.int i) (.int i)
 | tuple {ds : List AV} {es : List Dat} : IsDats ds es -> IsDat (.tuple ds) (.tuple es)
 | list {ds : List AV} {es : List Dat} : IsDats ds es -> IsDat (.list ds) (.list es)
inductive IsDats : List AV -> List Dat -> Prop
 | nil : IsDats [] []
 | cons {d : AV} {e : Dat} {ds : List AV} {es : List Dat} : IsDat d e -> IsDats ds es -> IsDats (d :: ds) (e :: es)
end
section
variable {P : Pool} {h : Heap} (hp : ∀ a o, P a = some o -> h.get? a = some o)
noncomputable abbrev RdOne (P : Pool) (h : Heap) (d : AV) (e : Dat) : Prop := ∀ v, VR P v d -> ∃ as, Reads h v (kqdP e) as
noncomputable abbrev RdAll (P : Pool) (h : Heap) (ds : List AV) (es : List Dat) : Prop := ∀ vs, VRs P vs ds -> ∃ as, ReadsAll h vs (kqdPs es) as
include hp
theorem reads_int (i : Int) : RdOne P h (.int i) (.int i) := fun v r => by obtain ⟨t, rfl⟩ := r.int_inv; exact ⟨_, Reads.int i t⟩
theorem reads_tup {ds : List AV} {es : List Dat} (ih : RdAll P h ds es) : RdOne P h (.tuple ds) (.tuple es) := fun v r => by
 obtain ⟨a, o, vs, n, rfl, ho, hc, hd, rs⟩ := r.tuple_inv; obtain ⟨as, q⟩ := ih _ rs; rw [kqdP]; exact ⟨as, reads_tuple_at (hp _ _ ho) hc hd (by simpa using q)⟩
theorem reads_lis {ds : List AV} {es : List Dat} (ih : RdAll P h ds es) : RdOne P h (.list ds) (.list es) := fun v r => by
 obtain ⟨a, vs, n, rfl, ho, rs⟩ := r.list_inv; obtain ⟨as, q⟩ := ih _ rs; rw [kqdP]; exact ⟨_, reads_list_at (hp _ _ ho) rfl rfl (by simpa using q)⟩
theorem reads_nil : RdAll P h [] [] := fun vs r => by obtain rfl := r.nil_inv; exact ⟨_, ReadsAll.nil⟩
theorem reads_cons {d : AV} {e : Dat} {ds : List AV} {es : List Dat} (h1 : RdOne P h d e) (ih : RdAll P h ds es) : RdAll P h (d :: ds) (e :: es) := fun vs r => by
 obtain ⟨v, ws, rfl, r1, rs⟩ := r.cons_inv; obtain ⟨as, q⟩ := h1 _ r1; obtain ⟨bs, p⟩ := ih _ rs; rw [kqdPs]; exact ⟨_, ReadsAll.cons q p⟩
theorem IsDat.reads {v : Value} {d : AV} {e : Dat} (x : IsDat d e) (r : VR P v d) : ∃ as, Reads h v (kqdP e) as :=
 IsDat.rec (motive_1 := fun d e _ => RdOne P h d e) (motive_2 := fun ds es _ => RdAll P h ds es) (reads_int hp) (fun _ ih => reads_tup hp ih) (fun _ ih => reads_lis hp ih) (reads_nil hp) (fun _ _ h1 ih => reads_cons hp h1 ih) x v r
theorem IsDats.reads {vs : List Value} {ds : List AV} {es : List Dat} (x : IsDats ds es) (r : VRs P vs ds) : ∃ as, ReadsAll h vs (kqdPs es) as :=
 IsDats.rec (motive_1 := fun d e _ => RdOne P h d e) (motive_2 := fun ds es _ => RdAll P h ds es) (reads_int hp) (fun _ ih => reads_tup hp ih) (fun _ ih => reads_lis hp ih) (reads_nil hp) (fun _ _ h1 ih => reads_cons hp h1 ih) x vs r
end
theorem isDats_ints : ∀ (l : List Int), IsDats (l.map AV.int) (l.map Dat.int)
 | [] => .nil
 | i :: l => .cons (.int i) (isDats_ints l)
theorem isDats_map {α : Type} {f : α -> AV} {g : α -> Dat} (h : ∀ x, IsDat (f x) (g x)) : ∀ (l : List α), IsDats (l.map f) (l.map g)
 | [] => .nil
 | i :: l => .cons (h i) (isDats_map h l)
theorem map_inj {α β : Type} {f : α -> β} (hf : ∀ a b, f a = f b -> a = b) : ∀ {l m : List α}, l.map f = m.map f -> l = m
 | [], [], _ => rfl
 | [], _ :: _, h => by cases h
 | _ :: _, [], h => by cases h
 | a :: l, b :: m, h => by
   rw [map_cons, map_cons, List.cons.injEq] at h; rw [hf _ _ h.1, map_inj hf h.2]
theorem dat_ints_inj {l m : List Int} : l.map Dat.int = m.map Dat.int ↔ l = m := by
 constructor
 . intro h; exact map_inj (fun a b e => by injection e) h
 . rintro rfl; rfl
noncomputable abbrev tA (l : List Int) : AV := .tuple (l.map AV.int)
noncomputable abbrev tD (l : List Int) : Dat := .tuple (l.map Dat.int)
theorem isDat_tup (l : List Int) : IsDat (tA l) (tD l) := .tuple (isDats_ints l)
theorem dat_tups_inj {l m : List (List Int)} : l.map tD = m.map tD ↔ l = m := by
 constructor
 . intro h; exact map_inj (fun a b e => by injection e with e; exact dat_ints_inj.mp e) h
 . rintro rfl; rfl
theorem ok_int (n : Nat) (i : Int) : kqdOk n (.int i) = true := by cases n <;> rfl
theorem ok_ints (n : Nat) (l : List Int) : ∀ d ∈ l.map Dat.int, kqdOk n d = true := by
 intro d hd; obtain ⟨i, _, rfl⟩ := List.mem_map.mp hd; exact ok_int n i
theorem ok_tup (n : Nat) (l : List Int) : kqdOk (n + 1) (tD l) = true := by
 show (l.map Dat.int).all (kqdOk n) = true; rw [List.all_eq_true]; exact ok_ints n l
theorem ok_tups (n : Nat) (l : List (List Int)) : ∀ d ∈ l.map tD, kqdOk (n + 1) d = true := by
 intro d hd; obtain ⟨i, _, rfl⟩ := List.mem_map.mp hd; exact ok_tup n i
section
variable {C : Cx} {A : Around} {σ : St} {d e : AV} {ds es : List AV} {xs ys : List Dat} {n : Nat}
theorem AOk.eqRoom (h : AOk n A) : A.units + 64 < cLine := by have := h.units; show A.units + 64 < 9900; lia
theorem RdL.reads {P : Pool} {s : Shared} {v : Value} (hd : RdL σ d ds) (hx : IsDats ds xs) (S : Sat C P σ s) (r : VR P v d) : ∃ as, Reads s.heap v (.list (kqdPs xs)) as := by
 obtain ⟨a, o, vs, n, rfl, h1, h2, h3, h4⟩ := hd.get S r; obtain ⟨as, q⟩ := hx.reads S.pool h4; exact ⟨_, reads_list_at h1 h2 h3 (by simpa using q)⟩
theorem eqvL (hx : ∀ d ∈ xs, kqdOk 8 d = true) (hy : ∀ d ∈ ys, kqdOk 8 d = true) : (PyData.eqv (.list (kqdPs xs)) (.list (kqdPs ys)) = true ↔ xs = ys) /\ SeqAt.shaped (.list (kqdPs xs)) = true /\ SeqAt.shaped (.list (kqdPs ys)) = true := by
 have la := kqd_lay 9 (.list xs) (by simpa [kqdOk] using hx); have lb := kqd_lay 9 (.list ys) (by simpa [kqdOk] using hy); rw [kqdP] at la lb; have q := kqd_eqv 9 (.list xs) (.list ys) 9 (by simpa [kqdOk] using hx) (by simpa [kqdOk] using hy); rw [kqdP, kqdP, Dat.list.injEq] at q; refine ⟨q, ?_, ?_⟩
 . unfold SeqAt.shaped; rw [la.1, Bool.true_and]; exact decide_eq_true (le_trans la.2 (by decide))
 . unfold SeqAt.shaped; rw [lb.1, Bool.true_and]; exact decide_eq_true (le_trans lb.2 (by decide))
theorem cmp_eq_lists (hA : AOk n A) (hd : RdL σ d ds) (he : RdL σ e es) (hx : IsDats ds xs) (hy : IsDats es ys) (kx : ∀ d ∈ xs, kqdOk 8 d = true) (ky : ∀ d ∈ ys, kqdOk 8 d = true)
   (hQ : ∀ t : Bool, (t = true ↔ xs = ys) -> Q (.bool t) σ) : Op2 VR C A (compareOp .Eq) d e σ Q := by
 intro P s v u S r r'; obtain ⟨as, ra⟩ := hd.reads hx S r; obtain ⟨bs, rb⟩ := he.reads hy S r'; obtain ⟨h1, h2, h3⟩ := eqvL kx ky; exact eq_dataH ra rb h2 h3 hA.eqRoom (Post.mk S (.bool _) (hQ _ h1))
theorem cmp_ne_lists (hA : AOk n A) (hd : RdL σ d ds) (he : RdL σ e es) (hx : IsDats ds xs) (hy : IsDats es ys) (kx : ∀ d ∈ xs, kqdOk 8 d = true) (ky : ∀ d ∈ ys, kqdOk 8 d = true)
   (hQ : ∀ t : Bool, (t = true ↔ xs ≠ ys) -> Q (.bool t) σ) : Op2 VR C A (compareOp .NotEq) d e σ Q := by
 intro P s v u S r r'; obtain ⟨as, ra⟩ := hd.reads hx S r; obtain ⟨bs, rb⟩ := he.reads hy S r'; obtain ⟨h1, h2, h3⟩ := eqvL kx ky; refine ne_dataH ra rb h2 h3 hA.eqRoom (Post.mk S (.bool _) (hQ _ ?_)); rw [Bool.not_eq_true', <- Bool.not_eq_true, h1]
theorem cmp_eq_tuples {l m : List Int} (hA : AOk n A) (hQ : Q (.bool (decide (l = m))) σ) : Op2 VR C A (compareOp .Eq) (tA l) (tA m) σ Q := by
 intro P s v u S r r'; obtain ⟨as, ra⟩ := (isDat_tup l).reads S.pool r; obtain ⟨bs, rb⟩ := (isDat_tup m).reads S.pool r'; have la := kqd_lay 9 (tD l) (ok_tup 8 l); have lb := kqd_lay 9 (tD m) (ok_tup 8 m); have q := kqd_eqv 9 (tD l) (tD m) 9 (ok_tup 8 l) (ok_tup 8 m)
 have e : PyData.eqv (kqdP (tD l)) (kqdP (tD m)) = decide (l = m) := by
   by_cases hq : l = m
   . rw [decide_eq_true hq]; exact q.mpr (by rw [hq])
   . rw [decide_eq_false hq]; exact Bool.eq_false_iff.mpr fun x => hq (dat_ints_inj.mp (by have := q.mp x; injection this))
 refine eq_dataH ra rb ?_ ?_ hA.eqRoom (by rw [e]; exact Post.mk S (.bool _) hQ)
 . unfold SeqAt.shaped; rw [la.1, Bool.true_and]; exact decide_eq_true (le_trans la.2 (by decide))
 . unfold SeqAt.shaped; rw [lb.1, Bool.true_and]; exact decide_eq_true (le_trans lb.2 (by decide))
theorem cmp_notIn_tuples {l : List (List Int)} {m : List Int} (hA : AOk n A) (hd : RdL σ d (l.map tA)) (hQ : Q (.bool (decide (m ∉ l))) σ) : Op2 VR C A (compareOp .NotIn) (tA m) d σ Q := by
 intro P s v u S r r'; obtain ⟨as, ra⟩ := hd.reads (isDats_map isDat_tup l) S r'; obtain ⟨bs, rb⟩ := (isDat_tup m).reads S.pool r; have kx := ok_tups 7 l; have l1 := kqd_layL kx; have ld := kqd_lay 8 (tD m) (ok_tup 7 m); have hany := kqd_any (l.map tD) (tD m) kx (ok_tup 7 m)
 have e : (!((kqdPs (l.map tD)).any fun y => PyData.eqv y (kqdP (tD m)))) = decide (m ∉ l) := by
   have hmem : tD m ∈ l.map tD ↔ m ∈ l := by
     constructor
     . intro h; obtain ⟨k, hk, e⟩ := List.mem_map.mp h; injection e with e; rwa [<- dat_ints_inj.mp e]
     . exact fun h => mem_map_of_mem h
   by_cases hq : m ∈ l
   . rw [hany.mpr (hmem.mpr hq)]; simp [hq]
   . have : ((kqdPs (l.map tD)).any fun y => PyData.eqv y (kqdP (tD m))) = false := Bool.eq_false_iff.mpr fun z => hq (hmem.mp (hany.mp z)); rw [this]; simp [hq]
 refine SeqAt.notIn_list_reads ra rb l1.1 ld.1 ?_ (by rw [e]; exact Post.mk S (.bool _) hQ); have := hA.eqRoom; have := min_le_right (PyData.depthAll (kqdPs (l.map tD))) (kqdP (tD m)).depth; have := ld.2
 lia
inductive RdE (σ : St) : AV -> List AV -> Prop
 | frozen {ds : List AV} : RdE σ (.list ds) ds
 | led {a : Addr} {ds : List AV} : (a, .list ds) ∈ σ -> RdE σ (.val (.ref a)) ds
inductive RdEO (s : Shared) (P : Pool) (v : Value) (ds : List AV) : Prop
 | intro (a : Addr) (vs : List Value) (n : Nat) (e : v = .ref a) (h : s.heap.get? a = some (listO vs n)) (r : VRs P vs ds)
theorem RdE.get {P : Pool} {s : Shared} {v : Value} (hd : RdE σ d ds) (S : Sat C P σ s) (r : VR P v d) : RdEO s P v ds := by
 cases hd with
 | frozen => obtain ⟨a, vs, n, e, h1, h2⟩ := r.list_inv; exact ⟨_, _, _, e, S.pool _ _ h1, h2⟩
 | led hm => obtain ⟨vs, n, h1, h2⟩ := S.ents _ hm; exact ⟨_, _, _, r.val_inv, h1, h2⟩
theorem bin_add_list (hd : RdE σ d ds) (he : RdE σ e es) (hz : ds.length + es.length <= sizeLine) (hQ : Q (.list (ds ++ es)) σ) : Op2 VR C A (binaryOp .Add) d e σ Q := by
 intro P s v u S r r'; obtain ⟨a, vs, n, rfl, g1, g2⟩ := hd.get S r; obtain ⟨b, us, m, rfl, g3, g4⟩ := he.get S r'; refine PySem.P.add_list g1 g3 ?_ (by simp [g2.length, g4.length]; exact hz); obtain ⟨l', S₃⟩ := frozen_new (h := s.heap) S (o := listO (vs ++ us) 0) rfl s.toks; refine ⟨_, _, _, l', by simpa using S₃, .list (addP_self _ _ _) ((g2.append g4).mono l'), hQ⟩
theorem bin_add_list_new (hd : RdE σ d ds) (he : RdE σ e es) (hz : ds.length + es.length <= sizeLine) (hQ : ∀ c, Q (.val (.ref c)) ((c, .list (ds ++ es)) :: σ)) : Op2 VR C A (binaryOp .Add) d e σ Q := by
 intro P s v u S r r'; obtain ⟨a, vs, n, rfl, g1, g2⟩ := hd.get S r; obtain ⟨b, us, m, rfl, g3, g4⟩ := he.get S r'; refine PySem.P.add_list g1 g3 ?_ (by simp [g2.length, g4.length]; exact hz); have S' := S.new (e := .list (ds ++ es)) (h' := s.heap.push (listO (vs ++ us) 0)) (Heap.get?_none_of_le (le_refl _)) s.toks (fun b o e => Heap.get?_push_of_some _ e) ⟨vs ++ us, 0, Heap.get?_push_size _ rfl, g2.append g4⟩; refine ⟨P, _, _, PLe.refl _, by simpa using S', .val _, hQ _⟩
end
end
section
noncomputable abbrev nA (n : Nat) : AV := .int (n : Int)
noncomputable def nextSym (rs : List (List Int)) (n : Nat) : List Int := ((rs.getD (n / 8) []).drop (1 + n % 8)).take 1
noncomputable def addsFrom : Nat -> List (List Int) -> Int -> List Nat
 | _, [], _ => []
 | j, r :: l, X => (if r.headD 0 = X then [8 * j] else []) ++ addsFrom (j + 1) l X
theorem addsFrom_c (j : Nat) (r : List Int) (l : List (List Int)) (X : Int) : addsFrom j (r :: l) X = (if r.headD 0 = X then [8 * j] else []) ++ addsFrom (j + 1) l X := rfl
inductive Reach (rs : List (List Int)) (w0 : List Nat) : Nat -> Prop
 | base {n : Nat} : n ∈ w0 -> Reach rs w0 n
 | step {n m : Nat} {X : Int} : Reach rs w0 n -> nextSym rs n = [X] -> 256 <= X -> m ∈ addsFrom 0 rs X -> Reach rs w0 m
structure Closed (rs : List (List Int)) (w0 fin : List Nat) : Prop where
 sorted : fin.Pairwise (· < ·)
 mem : ∀ n, n ∈ fin ↔ Reach rs w0 n
theorem mem_addsFrom {m : Nat} {X : Int} : ∀ {l : List (List Int)} {j : Nat}, m ∈ addsFrom j l X -> m % 8 = 0 /\ j <= m / 8 /\ m / 8 < j + l.length
 | [], _, h => by cases h
 | r :: l, j, h => by
   rw [addsFrom_c] at h; rcases List.mem_append.mp h with h | h
   . split at h
     . rw [List.mem_singleton.mp h]; simp
     . cases h
   . obtain ⟨h1, h2, h3⟩ := mem_addsFrom h; exact ⟨h1, le_of_succ_le h2, by rw [length_cons, add_comm l.length 1, <- add_assoc]; exact h3⟩
theorem addsFrom_len {X : Int} : ∀ {l : List (List Int)} {j : Nat}, (addsFrom j l X).length <= l.length
 | [], _ => le_refl 0
 | r :: l, j => by
   have := addsFrom_len (X := X) (l := l) (j := j + 1); rw [addsFrom_c]; rw [length_append, add_comm]; refine add_le_add this ?_; split
   . exact le_refl 1
   . exact zero_le 1
theorem cut_from {α : Type} (k : Nat) (l : List α) : cut (some (k : Int)) none l = l.drop k := by
 unfold cut; simp only [Option.elim, clipAt_nat]; rcases Nat.le_total k l.length with h | h
 . rw [min_eq_left h, take_of_length_le (by simp)]
 . rw [Nat.min_eq_right h, drop_of_length_le (by simp), drop_of_length_le h]; simp
theorem cut_upto {α : Type} (k : Nat) (l : List α) : cut none (some (k : Int)) l = l.take k := by
 unfold cut; simp only [Option.elim, clipAt_nat, List.drop_zero, sub_zero]; rcases Nat.le_total k l.length with h | h
 . rw [min_eq_left h]
 . rw [Nat.min_eq_right h, take_of_length_le (by simp), take_of_length_le h]
theorem cut_mid {α : Type} (a b : Nat) (l : List α) (ha : a <= l.length) : cut (some (a : Int)) (some (b : Int)) l = (l.drop a).take (b - a) := by
 unfold cut; simp only [Option.elim, clipAt_nat]; rw [min_eq_left ha]; rcases Nat.le_total b l.length with h | h
 . rw [min_eq_left h]
 . rw [Nat.min_eq_right h, take_of_length_le (by simp), take_of_length_le (by rw [length_drop]; exact Nat.sub_le_sub_right h a)]
theorem cut_exists (p : Nat -> Bool) : ∀ (n : Nat), (∀ i j, i <= j -> j < n -> p j = true -> p i = true) -> ∃ r, Cut p n r
 | 0, _ => ⟨0, le_refl _, fun i h => absurd h (not_lt_zero _)⟩
 | n + 1, mono => by
   cases hp : p n with
   | true => exact ⟨n + 1, le_refl _, fun i h => (mono i n (le_of_lt_succ h) (lt_succ_self n) hp).trans (decide_eq_true h).symm⟩
   | false =>
     obtain ⟨r, h1, h2⟩ := cut_exists p n fun i j a b c => mono i j a (Nat.lt_succ_of_lt b) c; refine ⟨r, Nat.le_succ_of_le h1, fun i h => ?_⟩; by_cases e : i = n
     . rw [e, hp]; exact (decide_eq_false (Nat.not_lt.mpr h1)).symm
     . exact h2 i (lt_of_le_of_ne (le_of_lt_succ h) e)
theorem pair_get {l : List Nat} (h : l.Pairwise (· < ·)) {i j : Nat} (hij : i < j) (hj : j < l.length) : l[i]'(lt_trans hij hj) < l[j] := List.pairwise_iff_getElem.mp h i j _ _ hij
section
variable {α : Type} {q : α -> Bool} {d : α} {u : List α} {r : Nat} {R : α -> α -> Prop} {x : α}
theorem getD_of {i : Nat} {a : α} (h : u[i]? = some a) : u.getD i d = a := by rw [getD_eq_getElem?_getD, h]; rfl
theorem cut_of (hs : u.Pairwise fun a b => q b = true -> q a = true) : ∃ r, Cut (fun i => q (u.getD i d)) u.length r := by
 refine cut_exists _ _ fun i j hij hj h => ?_; rcases Nat.eq_or_lt_of_le hij with rfl | hlt
 . exact h
 . have hi := lt_trans hlt hj; have := List.pairwise_iff_getElem.mp hs i j hi hj hlt; show q _ = true; replace h : q _ = true := h; rw [getD_of (getElem?_eq_getElem hj)] at h; rw [getD_of (getElem?_eq_getElem hi)]; exact this h
theorem Cut.lo (hc : Cut (fun i => q (u.getD i d)) u.length r) {a : α} (h : a ∈ u.take r) : q a = true := by
 obtain ⟨i, hm, rfl⟩ := List.mem_take_iff_getElem.mp h; have hi := lt_of_lt_of_le hm (min_le_right _ _); have : q _ = _ := hc.is i hi; rw [getD_of (getElem?_eq_getElem hi)] at this; exact this.trans (decide_eq_true (lt_of_lt_of_le hm (Nat.min_le_left _ _)))
theorem Cut.hi (hc : Cut (fun i => q (u.getD i d)) u.length r) {a : α} (h : a ∈ u.drop r) : q a = false := by
 obtain ⟨i, hm, rfl⟩ := List.mem_drop_iff_getElem.mp h; rw [add_comm] at hm; have : q _ = _ := hc.is (r + i) hm; rw [getD_of (getElem?_eq_getElem hm)] at this; exact this.trans (decide_eq_false (Nat.not_lt.mpr (le_add_right r i)))
theorem ins_pairwise (hs : u.Pairwise R) (hlo : ∀ a ∈ u.take r, R a x) (hhi : ∀ b ∈ u.drop r, R x b) : (u.take r ++ x :: u.drop r).Pairwise R := by
 rw [<- take_append_drop r u, List.pairwise_append] at hs; exact List.pairwise_append.mpr ⟨hs.1, List.pairwise_cons.mpr ⟨hhi, hs.2.1⟩, fun a ha b hb => (List.mem_cons.mp hb).elim (fun e => e ▸ hlo a ha) (hs.2.2 a ha b)⟩
theorem ins_perm (u : List α) (x : α) (r : Nat) : (u.take r ++ x :: u.drop r).Perm (x :: u) := by
 have h : (u.take r ++ x :: u.drop r).Perm (x :: (u.take r ++ u.drop r)) := List.perm_middle; rwa [take_append_drop] at h
end
theorem insert_sorted {st : List Nat} (hs : st.Pairwise (· < ·)) {it r : Nat} (hit : it ∉ st) (hc : Cut (fun i => !decide ((it : Int) < (st.getD i 0 : Nat))) st.length r) :
   (st.take r ++ it :: st.drop r).Pairwise (· < ·) /\ ∀ n, n ∈ st.take r ++ it :: st.drop r ↔ n = it \/ n ∈ st := by
 refine ⟨ins_pairwise hs (fun x hx => ?_) (fun x hx => Int.ofNat_lt.mp (of_nd_f (Cut.hi (q := fun n : Nat => !decide ((it : Int) < n)) hc hx))), fun n => (ins_perm _ _ _).mem_iff.trans mem_cons⟩; exact lt_of_le_of_ne (Int.ofNat_le.mp (Int.not_lt.mp (of_nd_t (Cut.lo (q := fun n : Nat => !decide ((it : Int) < n)) hc hx)))) fun e => hit (e ▸ mem_of_mem_take hx)
theorem found_iff {st : List Nat} (hs : st.Pairwise (· < ·)) {it r : Nat} (hc : Cut (fun i => decide (((st.getD i 0 : Nat) : Int) < it)) st.length r) : ((st.drop r).take 1 = [it] ↔ it ∈ st) := by
 constructor
 . intro h; exact mem_of_mem_drop (mem_of_mem_take (h ▸ mem_cons_self))
 . intro h; rw [<- take_append_drop r st] at h; have hd := (List.mem_append.mp h).resolve_left fun q => Int.lt_irrefl (it : Int) (of_decide_eq_true (Cut.lo (q := fun n : Nat => decide ((n : Int) < it)) hc q)); have hp := hs.sublist (drop_sublist r st); have hi : ∀ b ∈ st.drop r, _ := fun b hb => Cut.hi (q := fun n : Nat => decide ((n : Int) < it)) hc hb; generalize st.drop r = l at hd hp hi
   cases l with
   | nil => cases hd
   | cons y l =>
     rcases List.mem_cons.mp hd with rfl | hd
     . rfl
     . exact absurd (Int.ofNat_lt.mpr ((List.pairwise_cons.mp hp).1 it hd)) (of_decide_eq_false (hi y mem_cons_self))
theorem sorted_bound' {N : Nat} {st : List Nat} (hs : st.Pairwise (· < ·)) : ∀ {m : Nat}, m <= N -> (∀ n ∈ st, m <= n /\ n < N) -> m + st.length <= N := by
 induction st with
 | nil => exact fun h _ => h
 | cons x l ih =>
   intro m _ h; rw [pairwise_cons] at hs; have hx := h x mem_cons_self; refine le_trans ?_ (ih hs.2 hx.2 fun n hn => ⟨hs.1 n hn, (h n (mem_cons_of_mem _ hn)).2⟩); rw [length_cons, add_comm l.length 1, <- add_assoc]; exact add_le_add_right (succ_le_succ hx.1) _
theorem sorted_bound {st : List Nat} (hs : st.Pairwise (· < ·)) {N : Nat} (h : ∀ n ∈ st, n < N) : st.length <= N := by
 have := sorted_bound' hs (zero_le N) fun n hn => ⟨zero_le _, h n hn⟩; rwa [zero_add] at this
end
section
theorem compScope_of {sc : Scope} (h : (scopeB sc && decide (∀ x ∈ sc.names, x.2 ≠ .cell)) = true) : CompScope sc := by
 simp only [Bool.and_eq_true, decide_eq_true_eq] at h; have s := scopeOk_of h.1; exact ⟨s.kind, s.nd, h.2, s.nodbg, s.nocls⟩
theorem sub_nil {α : Type} {l : List α} : ∀ p ∈ ([] : List α), p ∈ l := fun _ h => nomatch h
theorem sub_cons {α : Type} {l m : List α} {p : α} (h : p ∈ l) (hs : ∀ q ∈ m, q ∈ l) : ∀ q ∈ p :: m, q ∈ l := fun q hq => by
 rcases List.mem_cons.mp hq with rfl | hq
 . exact h
 . exact hs q hq
noncomputable def freeNames (names : List (Str × NameKind)) : List Str := (names.filter fun p => p.2 == .free).map (·.1)
theorem free_mem {names : List (Str × NameKind)} {x : Str} : x ∈ freeNames names ↔ (x, NameKind.free) ∈ names := by
 unfold freeNames; constructor
 . intro h; obtain ⟨p, hp, rfl⟩ := List.mem_map.mp h; obtain ⟨h1, h2⟩ := List.mem_filter.mp hp; have : p.2 = .free := by simpa using h2
   rw [<- this]; exact h1
 . intro h; exact List.mem_map.mpr ⟨_, List.mem_filter.mpr ⟨h, by simp⟩, rfl⟩
theorem allNone_of {m : List (Str × Option AV)} (h : m.all (fun p => p.2.isNone) = true) : allNone m := fun x av hx => by
 have := List.all_eq_true.mp h _ hx; cases this
section
variable {C : Cx} {A : Around} {σ : St} {env : Env} {pos pos' spos : Pos} {L : Addr} {names : List (Str × NameKind)} {cells cells' : List (Str × Addr)}
theorem free_ok {sn : List (Str × NameKind)} (hf : freeNames sn = cells'.map (·.1)) (hs : ∀ p ∈ cells', p ∈ cells) : (∀ x, (x, NameKind.free) ∈ sn -> ∃ c, (x, c) ∈ cells) /\ (∀ x c, (x, c) ∈ cells' -> (x, NameKind.free) ∈ sn /\ (x, c) ∈ cells) := by
 constructor
 . intro x hx; have := free_mem.mpr hx; rw [hf] at this; obtain ⟨p, hp, rfl⟩ := List.mem_map.mp this; exact ⟨p.2, hs _ hp⟩
 . intro x c hx; refine ⟨free_mem.mp ?_, hs _ hx⟩
   rw [hf]; exact mem_map_of_mem (f := (·.1)) hx
theorem ev_lc {elt : Expr} {g : Comprehension} {gs : List Comprehension} {sc : Scope} {m0 : List (Str × Option AV)} (cells' : List (Str × Addr)) (hasync : (g.is_async != 0) = false)
   (cs : (scopeB sc && decide (∀ x ∈ sc.names, x.2 ≠ .cell)) = true) (hE : EnvIs env L names cells) (hf : freeNames sc.names = cells'.map (·.1)) (hsub : ∀ p ∈ cells', p ∈ cells)
   (hm0 : (m0.map (·.1)).Nodup) (hmn : allNone m0) (hs : ∀ x, foldedSetIterable g.iter env x = pure x)
   (hiter : EvIter C A env g.target g.iter σ fun ds σ₁ => ∃ out, Core C A (.ListComp elt (g :: gs) sc pos) g sc cells' m0 (.list []) (.list out) ds σ₁ /\ Q (.list out) σ₁) : Ev C A (eval (.ListComp elt (g :: gs) sc pos) env) σ Q :=
 ev_listcomp hasync (compScope_of cs) hE (free_ok hf hsub).1 (free_ok hf hsub).2 hm0 hmn hs hiter
theorem ev_dc {k v : Expr} {g : Comprehension} {gs : List Comprehension} {sc : Scope} {m0 : List (Str × Option AV)} (cells' : List (Str × Addr)) (hsys : ∃ (b₁ : Addr) (o : Obj), sysModules <= b₁ /\ C.P₀ b₁ = some o) (hasync : (g.is_async != 0) = false)
   (cs : (scopeB sc && decide (∀ x ∈ sc.names, x.2 ≠ .cell)) = true) (hE : EnvIs env L names cells) (hf : freeNames sc.names = cells'.map (·.1)) (hsub : ∀ p ∈ cells', p ∈ cells)
   (hm0 : (m0.map (·.1)).Nodup) (hmn : allNone m0) (hs : ∀ x, foldedSetIterable g.iter env x = pure x)
   (hiter : EvIter C A env g.target g.iter σ fun ds σ₁ => ∃ out, Core C A (.DictComp k v (g :: gs) sc pos) g sc cells' m0 (.dict []) (.dict out) ds σ₁ /\ Q (.dict out) σ₁) : Ev C A (eval (.DictComp k v (g :: gs) sc pos) env) σ Q :=
 ev_dictcomp hsys hasync (compScope_of cs) hE (free_ok hf hsub).1 (free_ok hf hsub).2 hm0 hmn hs hiter
theorem ex_asg_lc {elt : Expr} {y : Str} {g : Comprehension} {gs : List Comprehension} {sc : Scope} {m0 : List (Str × Option AV)} (cells' : List (Str × Addr)) {Q : AFlow -> St -> Prop} (hasync : (g.is_async != 0) = false)
   (cs : (scopeB sc && decide (∀ x ∈ sc.names, x.2 ≠ .cell)) = true) (hE : EnvIs env L names cells) (hf : freeNames sc.names = cells'.map (·.1)) (hsub : ∀ p ∈ cells', p ∈ cells)
   (hm0 : (m0.map (·.1)).Nodup) (hmn : allNone m0) (hs : ∀ x, foldedSetIterable g.iter env x = pure x)
   (hy : (y, .local) ∈ names) (hpos : (pos'.line == pos.line) = true) (hnm : (sc.names.any fun (n, k) => n == y && (k == .local || k == .cell)) = false)
   (hiter : EvIter C A env g.target g.iter σ fun ds σ₁ => ∃ out, Core C A (.ListComp elt (g :: gs) sc pos) g sc cells' m0 (.list []) (.list out) ds σ₁ /\
     ∃ m m' σ₂, SetM m y (.list out) m' /\ Mine.Upd σ₁ L (.ns m) (.ns m') σ₂ /\ Q .next σ₂) : Ef C A (exec (.Assign [.Name y pos'] (.ListComp elt (g :: gs) sc pos) spos) env) σ Q :=
 ex_assign_lc hasync (compScope_of cs) hE (free_ok hf hsub).1 (free_ok hf hsub).2 hm0 hmn hs hy hpos hnm hiter
end
end
local macro_rules | `(tactic| walk_at "s") => `(tactic| first | exact sub_nil | (refine sub_cons (by walk_at "m") ?_; walk_at "s"))
section
section
variable {C : Cx} {A : Around} {σ σ' : St} (X : Wd C)
noncomputable def addF (X : Int) : AV -> List AV
 | .tuple [.int k, .tuple (.int s :: _)] => if s = X then [.int (8 * k)] else []
 | _ => []
theorem addF_enum {X : Int} : ∀ (l : List (List Int)) (j : Nat), (∀ r ∈ l, r ≠ []) -> (enumD j (l.map tA)).flatMap (addF X) = (addsFrom j l X).map nA
 | [], _, _ => rfl
 | r :: l, j, h => by
   obtain _ | ⟨s, r⟩ := r
   . exact absurd rfl (h _ mem_cons_self)
   rw [map_cons, enumD, flatMap_cons, addF_enum l (j + 1) fun r hr => h r (mem_cons_of_mem _ hr)]
   have e : addF X (.tuple [.int ((j : Nat) : Int), tA (s :: r)]) = (if s = X then [8 * j] else []).map nA := by
     show (if s = X then [AV.int (8 * (j : Int))] else []) = _
     by_cases hs : s = X
     . simp [hs]
     . simp [hs]
   rw [e]
   show _ = List.map nA ((if s = X then [8 * j] else []) ++ addsFrom (j + 1) l X)
   rw [map_append]
theorem enumD_mem : ∀ {l : List AV} {j : Nat} {d : AV}, d ∈ enumD j l -> ∃ k, ∃ e ∈ l, j <= k /\ k < j + l.length /\ d = .tuple [.int (k : Nat), e]
 | e :: l, j, d, h => by
   rcases List.mem_cons.mp h with rfl | h
   . exact ⟨j, e, mem_cons_self, le_refl _, by simp, rfl⟩
   . obtain ⟨k, e, h1, h2, h3, h4⟩ := enumD_mem h; exact ⟨k, e, mem_cons_of_mem _ h1, le_of_succ_le h2, by rw [add_right_comm] at h3; exact h3, h4⟩
inductive CloI (rs : List (List Int)) (w0 : List Nat) (S L cB : Addr) (σ : St) : Nat -> St -> Prop
 | mk (W : Addr) (w st : List Nat) (it at' bh : Option AV) (h1 : st.Pairwise (· < ·)) (h2 : ∀ n, (n ∈ st \/ n ∈ w) -> n / 8 < rs.length /\ Reach rs w0 n) (h3 : ∀ n ∈ w0, n ∈ st \/ n ∈ w)
   (h4 : ∀ n ∈ st, ∀ X, nextSym rs n = [X] -> 256 <= X -> ∀ m ∈ addsFrom 0 rs X, m ∈ st \/ m ∈ w) (h5 : w.length <= 10000 + 100 * st.length) :
   CloI rs w0 S L cB σ ((rs.length + 1) * (8 * rs.length - st.length) + w.length)
     ((W, .list (w.map nA)) :: (S, .list (st.map nA)) :: (L, .ns [("rules", some (.list (rs.map tA))), ("wait", some (.val (.ref W))), ("state", some (.val (.ref S))), ("item", it), ("at", at')]) :: (cB, .cell bh) :: σ)
theorem closed_call (hL : SeekD C X.bisL) (hR : SeekD C X.bisR) (hI : SeekD C X.insR) (hA : AOk 4 A) {rs : List (List Int)} {w0 : List Nat} {W : Addr} (hrs : ∀ r ∈ rs, r ≠ []) (hlen : rs.length <= 100) (hrz : ∀ r ∈ rs, r.length <= 1000) (hw : ∀ x ∈ w0, x / 8 < rs.length) (hw0 : w0.length <= 10000)
   {Q : AV -> St -> Prop} (hQ : ∀ fin : List Nat, Closed rs w0 fin -> Q (.list (fin.map nA)) σ) : CallV C A (.fn X.closed) [.list (rs.map tA), .val (.ref W)] [] ((W, .list (w0.map nA)) :: σ) Q := by
 refine callV_freeze ?_; have hf' : DefFd X.closed _ _ _ := X.d_closed.1; obtain ⟨f1, f2, f3, f4, f5, f6⟩ := hf'; have hb := X.d_closed.2; refine callV_cells (pn := ["rules", "wait"]) (cn := ["behind"]) (m0 := [("rules", some (.list (rs.map tA))), ("wait", some (.val (.ref W))), ("state", none), ("item", none), ("at", none)]) X.G hA f1 (f3 ▸ scopeOk_of (by decide)) f4 f5 f6 (f3 ▸ by decide) (by decide) (f3 ▸ by decide) ?_ rfl (f3 ▸ by decide) (by decide) (show (["rules", "wait", "state", "item", "at"] : List Str).Nodup by decide) ?_ ?_
 . intro vs hvs; obtain ⟨v, u, rfl⟩ := len2 hvs; generalize X.closed = fd at *; obtain ⟨_, _, _, _, _, _, _, _, _, _, _, _, _, _, _⟩ := fd; obtain ⟨b1, b2⟩ := hb; dsimp only at f2 b1 b2; subst f2 b1 b2; rfl
 . intro x av hx; rw [f3]; simp only [mem_cons, Prod.mk.injEq, not_mem_nil, or_false, Option.some.injEq] at hx; rcases hx with ⟨rfl, rfl⟩ | ⟨rfl, rfl⟩ | ⟨rfl, h⟩ | ⟨rfl, h⟩ | ⟨rfl, h⟩
   . exact ⟨by decide, .head _⟩
   . exact ⟨by decide, .tail _ (.head _)⟩
   . cases h
   . cases h
   . cases h
 . intro L A' env ca hca hA' hE _ _; rw [f3] at hE; obtain ⟨cB, rfl⟩ := len1 hca; clear f1 f2 f3 f4 f5 f6 hb; show Ef C A' _ ((L, .ns [("rules", some (.list (rs.map tA))), ("wait", some (.val (.ref W))), ("state", none), ("item", none), ("at", none)]) :: (cB, .cell none) :: (W, .list (w0.map nA)) :: σ) _; replace hE : EnvIs env L _ [("behind", cB)] := hE; refine Wp.cps fun K hK => ?_; walk_at "g"; refine ev_list_new (args_nil ⟨zero_le _, fun S => ?_⟩); walk_at "a"; refine Wp.perm (σ' := (W, .list (w0.map nA)) :: (S, .list ([] : List AV)) :: (L, .ns [("rules", some (.list (rs.map tA))), ("wait", some (.val (.ref W))), ("state", some (.val (.ref S))), ("item", none), ("at", none)]) :: (cB, .cell none) :: σ) ?_ ?_
   . refine exs_cons ?_; refine ex_while (CloI rs w0 S L cB σ) _ (.mk W w0 [] none none none List.Pairwise.nil (fun n hn => ?_) (fun n hn => .inr hn) (fun n hn => (nomatch hn)) (by simp; exact hw0)) ?_
     . rcases hn with hn | hn
       . cases hn
       . exact ⟨hw n hn, .base hn⟩
     rintro n₁ σ₁ ⟨W, w, st, it, at', bh, hst, hval, hin, hcl, hwl⟩ K1 hK1; have hstl : st.length <= 8 * rs.length := sorted_bound hst fun n hn => by have := (hval n (.inl hn)).1; lia
     have hwz : w.length <= 1000000 := by lia
     have hz1 : (w.map nA).length <= sizeLine := szm (by lia); iterate 2 walk_at "e"
     refine tr_list (.led (by walk_at "m")) hz1 ?_; rcases eq_nil_or_concat w with rfl | ⟨w', item, hwc⟩
     . refine if_f (by simp) ?_; refine exs_nil (exs_cons (ex_return ?_)); walk_at "e"; refine hK _ _ ⟨_, (S, .list (st.map nA)) :: σ, rfl, ?_, S, _, _, _, .list _, hQ st ⟨hst, fun n => ⟨fun h => (hval n (.inl h)).2, fun h => ?_⟩⟩⟩
       . exact ((sublist_cons_self _ _).trans (sublist_cons_self _ _)).cons_cons _ |>.trans (sublist_cons_self _ _)
       . induction h with
         | base h => exact (hin _ h).resolve_right (by simp)
         | step h1 h2 h3 h4 ih => exact (hcl _ ih _ h2 h3 _ h4).resolve_right (by simp)
     . rw [concat_eq_append] at hwc; subst hwc; refine if_t (by simp) ?_; obtain ⟨hit, hrt⟩ := hval item (.inr (by simp)); have hmap : (w' ++ [item]).map nA = w'.map nA ++ [nA item] := by simp
       have hwl' : w'.length + 1 <= 1000000 := by simpa using hwz
       rw [hmap]; walk_at "g"; refine ev_mcall0 ?_ rfl; walk_at "e"; refine ⟨_, _, meth_list (List.Mem.head _) PySem.F.slot_list_pop PySem.F.type_list_pop, ?_⟩; refine cv_pop (by walk_at "m") (by rw [length_map, sizeLine_eq]; lia) ?_; walk_at "a"; obtain ⟨r, hr⟩ : ∃ r, Cut (fun i => decide (((st.getD i 0 : Nat) : Int) < item)) st.length r := cut_of (q := fun n : Nat => decide ((n : Int) < item)) (hst.imp fun h x => decide_eq_true (Int.lt_trans (Int.ofNat_lt.mpr h) (of_decide_eq_true x)))
       have hints : ∀ i, i < (st.map nA).length -> (st.map nA)[i]? = some (.int ((st.getD i 0 : Nat) : Int)) := fun i hi => by
         rw [length_map] at hi; rw [getElem?_map, getElem?_eq_getElem hi, getD_eq_getElem?_getD, getElem?_eq_getElem hi]; rfl
       have hz2 : (st.map nA).length <= sizeLine := szm (by lia); walk_at "g"; iterate 2 walk_at "e"
       refine ⟨.inl rfl, .fn _, ?_⟩; iterate 5 walk_at "e"
       refine kw_nil ?_; refine bisL_call (n := 0) X hL (hA'.le (by lia)) (.inl ⟨rfl, rfl⟩) (fun τ h => .led (h _ (by walk_at "m"))) hz2 (.inl ⟨rfl, hints⟩) (fun i hi => rfl) (by rw [length_map]; exact hr) ?_; walk_at "a"; refine exs_cons (ex_if ?_); iterate 3 walk_at "e"
       refine ev_slice (ev_part_some ?_); walk_at "e"; refine ev_part_some ?_; iterate 3 walk_at "e"
       refine bin_add ⟨some (r : Int), some ((r + 1 : Nat) : Int), .int _, .int _, fun l u hl hu => ?_⟩; refine st_list_slice (.led (by walk_at "m")) (gi_list_slice (.led (by walk_at "m")) hl hu hz2 ?_); rw [cut_mid _ _ _ (by rw [length_map]; exact hr.le), Nat.add_sub_cancel_left, <- map_drop, <- map_take]; refine ev_list (args_cons ?_ rfl); walk_at "e"; refine args_nil ⟨szle rfl, ?_⟩; have hd1 : IsDats (((st.drop r).take 1).map nA) (((st.drop r).take 1).map fun n : Nat => Dat.int (n : Int)) := isDats_map (f := nA) (g := fun n : Nat => Dat.int (n : Int)) (fun n => .int _) _; have hd2 : IsDats [nA item] [Dat.int item] := .cons (.int _) .nil; refine cmp_ne_lists hA' .frozen .frozen hd1 hd2 (fun d hd => ?_) (fun d hd => ?_) fun t ht => ⟨_, rfl, ?_⟩
       . obtain ⟨n, _, rfl⟩ := List.mem_map.mp hd; exact ok_int _ _
       . rw [List.mem_singleton.mp hd]; exact ok_int _ _
       have hfi := found_iff hst hr
       have ht' : t = true ↔ item ∉ st := by
         rw [ht, <- hfi]
         have : ((st.drop r).take 1).map (fun n : Nat => Dat.int (n : Int)) = [Dat.int item] ↔ (st.drop r).take 1 = [item] := by
           constructor
           . intro h; have h2 : ((st.drop r).take 1).map (fun n : Nat => Dat.int (n : Int)) = [item].map (fun n : Nat => Dat.int (n : Int)) := h; exact map_inj (fun a b e => by injection e with e; lia) h2
           . intro h; rw [h]; rfl
         rw [Ne, this]
       cases t with
       | false =>
         have hmem : item ∈ st := by
           by_cases q : item ∈ st
           . exact q
           . exact absurd (ht'.mpr q) (by decide)
         refine if_f (by decide) ?_; refine exs_nil (exs_nil (hK1 _ _ ⟨_, ?_, W, w', st, _, _, bh, hst, fun n hn => hval n (hn.imp id fun h => mem_append_left _ h), fun n hn => ?_, fun n hn Y h1 h2 m hm => ?_, by simp at hwl; lia⟩))
         . simp
         . rcases hin n hn with h | h
           . exact .inl h
           . rcases List.mem_append.mp h with h | h
             . exact .inr h
             . rw [List.mem_singleton.mp h]; exact .inl hmem
         . rcases hcl n hn Y h1 h2 m hm with h | h
           . exact .inl h
           . rcases List.mem_append.mp h with h | h
             . exact .inr h
             . rw [List.mem_singleton.mp h]; exact .inl hmem
       | true =>
         have hnm : item ∉ st := ht'.mp rfl; refine if_t rfl ?_; obtain ⟨q, hq⟩ : ∃ q, Cut (fun i => !decide ((item : Int) < (st.getD i 0 : Nat))) st.length q := cut_of (q := fun n : Nat => !decide ((item : Int) < n)) (hst.imp fun h x => by rw [decide_eq_false fun y => of_nd_t x (Int.lt_trans y (Int.ofNat_lt.mpr h))]; rfl); obtain ⟨hs2, hm2⟩ := insert_sorted hst hnm hq; refine exs_cons (ex_expr ?_ hE rfl); iterate 2 walk_at "e"
         refine ⟨.inl rfl, .fn _, ?_⟩; iterate 5 walk_at "e"
         refine kw_nil ?_; refine insR_call (n := 0) (x := (item : Int)) (ks := []) (key := .none) (ds := st.map nA) (p := fun i => !decide ((item : Int) < (st.getD i 0 : Nat))) (kv := fun i => ((st.getD i 0 : Nat) : Int)) (r := q) X hI hR (hA'.le (by lia)) (by walk_at "m") hz2 (.inl ⟨rfl, rfl, rfl, hints⟩) (fun i hi => rfl) (by rw [length_map]; exact hq) ⟨rfl, ?_⟩; have hst2 : (st.map nA).take q ++ nA item :: (st.map nA).drop q = (st.take q ++ item :: st.drop q).map nA := by simp
         have hlen2 : (st.take q ++ item :: st.drop q).length = st.length + 1 := (ins_perm st item q).length_eq
         have hst2l : (st.take q ++ item :: st.drop q).length <= 8 * rs.length := sorted_bound hs2 fun n hn => by
           rcases (hm2 n).mp hn with e | h
           . lia
           . have := (hval n (.inl h)).1; lia
         rw [hst2]; generalize hstn : st.take q ++ item :: st.drop q = st' at *; obtain ⟨rule, hrule⟩ : ∃ rule, rs[item / 8]? = some rule := ⟨_, getElem?_eq_getElem hit⟩; have hrl : nextSym rs item = (rule.drop (1 + item % 8)).take 1 := by unfold nextSym; rw [getD_eq_getElem?_getD, hrule]; rfl
         have hb1 : (rule.map AV.int).length <= sizeLine -> True := fun _ => trivial; by_cases hbig : (rule.map AV.int).length <= sizeLine
         case neg => exact absurd (le_trans (by rw [length_map]; exact hrz rule (mem_of_getElem? hrule)) (szle rfl)) hbig
         walk_at "g"; iterate 7 walk_at "e"
         refine bin_div ?_ (by decide) (by decide); refine st_list (k := (item : Int) / 8) .frozen (gi_list .frozen (by lia) (by lia) (e := tA rule) (by rw [getElem?_map, show ((item : Int) / 8).toNat = item / 8 by lia, hrule]; rfl) ?_) (fun _ _ => rfl); refine ev_slice (ev_part_some ?_); iterate 5 walk_at "e"
         refine bin_mod ?_ (by decide); refine bin_add (ev_part_none ⟨some ((1 + item % 8 : Nat) : Int), none, ?_, .none, fun l u hl hu => ?_⟩)
         . rw [show (1 : Int) + (item : Int) % 8 = ((1 + item % 8 : Nat) : Int) by lia]; exact .int _
         refine st_tuple_slice (gi_tuple_slice hl hu hbig ?_); refine ev_slice (ev_part_none (ev_part_some ?_)); walk_at "e"; refine ⟨none, some ((1 : Nat) : Int), .none, .int _, fun l u hl hu => ?_⟩; refine st_tuple_slice (gi_tuple_slice hl hu (le_trans (cut_len _ _ _) hbig) ?_); rw [cut_from, cut_upto, <- map_drop, <- map_take, <- hrl]; walk_at "a"; refine exs_cons (ex_if ?_); iterate 3 walk_at "e"
         refine tr_tuple (szm (by unfold nextSym; exact le_trans (List.length_take_le _ _) (by decide))) ?_
         have hok : ∀ n, (n ∈ st' \/ n ∈ w') -> n / 8 < rs.length /\ Reach rs w0 n := fun n hn => by
           rcases hn with h | h
           . rcases (hm2 n).mp h with e | h
             . rw [e]; exact ⟨hit, hrt⟩
             . exact hval n (.inl h)
           . exact hval n (.inr (mem_append_left _ h))
         have hin' : ∀ n ∈ w0, n ∈ st' \/ n ∈ w' := fun n hn => by
           rcases hin n hn with h | h
           . exact .inl ((hm2 n).mpr (.inr h))
           . rcases List.mem_append.mp h with h | h
             . exact .inr h
             . rw [List.mem_singleton.mp h]; exact .inl ((hm2 item).mpr (.inl rfl))
         have hcl' : ∀ n ∈ st, ∀ X, nextSym rs n = [X] -> 256 <= X -> ∀ m ∈ addsFrom 0 rs X, m ∈ st' \/ m ∈ w' := fun n hn Y h1 h2 m hm => by
           rcases hcl n hn Y h1 h2 m hm with h | h
           . exact .inl ((hm2 m).mpr (.inr h))
           . rcases List.mem_append.mp h with h | h
             . exact .inr h
             . rw [List.mem_singleton.mp h]; exact .inl ((hm2 item).mpr (.inl rfl))
         have hwl2 : w'.length <= 10000 + 100 * st.length := by simp at hwl; lia
         have hmeas : (rs.length + 1) * (8 * rs.length - st'.length) + (rs.length + 1) = (rs.length + 1) * (8 * rs.length - st.length) := by
           rw [hlen2, <- mul_succ, sub_s (lt_of_lt_of_le (lt_succ_self st.length) (by have := hst2l; rw [hlen2] at this; exact this))]
         have quiet : (∀ X, nextSym rs item = [X] -> 256 <= X -> False) -> ∃ m, m < (rs.length + 1) * (8 * rs.length - st.length) + (w' ++ [item]).length /\ CloI rs w0 S L cB σ m
             ((W, AEnt.list (w'.map nA)) :: (S, .list (st'.map nA)) :: (L, .ns [("rules", some (.list (rs.map tA))), ("wait", some (.val (.ref W))), ("state", some (.val (.ref S))), ("item", some (.int (item : Int))), ("at", some (.int (r : Int)))]) :: (cB, .cell (some (tA (nextSym rs item)))) :: σ) := by
           intro hq; refine ⟨_, ?_, W, w', st', _, _, _, hs2, hok, hin', fun n hn Y h1 h2 m hm => ?_, by lia⟩
           . rw [<- hmeas, add_assoc, length_append]; exact Nat.add_lt_add_left (lt_of_lt_of_le (lt_succ_self _) (le_add_left _ _)) _
           . rcases (hm2 n).mp hn with e | h
             . exact (hq Y (e ▸ h1) h2).elim
             . exact hcl' n h Y h1 h2 m hm
         cases hnx : nextSym rs item with
         | nil =>
           refine if_f (by simp) ?_; refine if_f (by decide) ?_; refine exs_nil (exs_nil (exs_nil (hK1 _ _ ?_))); rw [hnx] at quiet; exact quiet (fun Y h => by cases h)
         | cons Y tl =>
           obtain rfl : tl = [] := by
             have : (nextSym rs item).length <= 1 := by unfold nextSym; exact List.length_take_le _ _
             rw [hnx] at this
             cases tl with
             | nil => rfl
             | cons _ _ => simp at this
           refine if_t (by simp) ?_; iterate 4 walk_at "e"
           refine ⟨.inl rfl, .fn _, ?_⟩; iterate 4 walk_at "e"
           refine st_tuple (k := 0) (gi_tuple (by decide) (by decide) (e := .int Y) rfl ?_) (fun _ _ => rfl); walk_at "e"; refine kw_nil ?_; refine isNonterminal X (hA'.le (by lia)) (tr_bool ?_); by_cases hY : Y ≥ 256
           . refine if_t (by simpa using hY) ?_; refine it_and_nil ?_; refine if_t rfl ?_; have hal : (addsFrom 0 rs Y).length <= rs.length := addsFrom_len; walk_at "g"; iterate 2 walk_at "e"
             refine ev_lc (m0 := [("place", none), ("rule", none)]) [("behind", cB)] rfl (by decide) hE rfl (sub_cons (.head _) sub_nil) (by decide) (allNone_of rfl) (fun _ => rfl) ?_
             . skip
               refine evIter_call (T := "enumerate") ?_ rfl rfl ⟨_, _, rfl⟩; walk_at "e"; refine ⟨rfl, ?_⟩; iterate 3 walk_at "e"
               refine ⟨_, mkc_enum_list hA'.handled (.inl rfl), _, core_L1 (addF Y) (by rw [addF_enum _ _ hrs, length_map, sizeLine_eq]; lia) ?_, ?_⟩
               . intro d hd Lc cenv τ' hτ hE'; obtain ⟨k, e, he, _, _, rfl⟩ := enumD_mem hd; obtain ⟨rl, hrlm, rfl⟩ := List.mem_map.mp he; obtain _ | ⟨sy, rl⟩ := rl
                 . exact absurd rfl (hrs _ hrlm)
                 refine as_tuple hA'.handled rfl rfl ?_; walk_at "a"; walk_at "a"; refine tests_one ?_; iterate 4 walk_at "e"
                 refine st_tuple (k := 0) (gi_tuple (by decide) (by decide) (e := .int sy) rfl ?_) (fun _ _ => rfl); walk_at "e"; refine name_free hE' (by walk_at "m") (List.Mem.head _) (mem_cons_of_mem _ (hτ _ (by walk_at "m"))) ?_; walk_at "e"; refine st_tuple (k := 0) (gi_tuple (by decide) (by decide) (e := .int Y) rfl ?_) (fun _ _ => rfl); refine cmp_eq ⟨_, rfl, ?_⟩; by_cases hsy : sy = Y
                 . refine if_t (by simpa using hsy) ?_; iterate 3 walk_at "e"
                   refine bin_mul ⟨?_, _, ?_, rfl⟩ (.inl (by decide))
                   . show (if sy = Y then _ else _) = _
                     rw [if_pos hsy]
                   . exact .none (.none .nil)
                 . refine if_f (by simpa using hsy) ?_; refine ⟨?_, _, ?_, rfl⟩
                   . show (if sy = Y then _ else _) = _
                     rw [if_neg hsy]
                   . exact .none (.none .nil)
               . rw [addF_enum _ _ hrs]; refine bin_add_list_new (.led (by walk_at "m")) .frozen (by rw [length_map, length_map, sizeLine_eq]; lia) fun W2 => ?_; walk_at "a"; refine Wp.sub ?_ (List.Sublist.cons_cons _ (sublist_cons_self _ _)); rw [<- map_append]; refine exs_nil (exs_nil (exs_nil (hK1 _ _ ⟨_, ?_, W2, w' ++ addsFrom 0 rs Y, st', _, _, _, hs2, fun n hn => ?_, fun n hn => ?_, fun n hn Z h1 h2 m hm => ?_, ?_⟩)))
                 . rw [length_append, length_append, <- hmeas, add_assoc]; exact Nat.add_lt_add_left (lt_of_le_of_lt (add_le_add_left hal _) (by rw [add_comm]; exact Nat.add_lt_add (lt_succ_self _) (lt_succ_self _))) _
                 . rcases hn with h | h
                   . exact hok n (.inl h)
                   . rcases List.mem_append.mp h with h | h
                     . exact hok n (.inr h)
                     . have := mem_addsFrom h; exact ⟨by lia, .step hrt hnx hY h⟩
                 . rcases hin' n hn with h | h
                   . exact .inl h
                   . exact .inr (mem_append_left _ h)
                 . rcases (hm2 n).mp hn with e | h
                   . rw [e, hnx] at h1; cases h1; exact .inr (mem_append_right _ hm)
                   . rcases hcl' n h Z h1 h2 m hm with h | h
                     . exact .inl h
                     . exact .inr (mem_append_left _ h)
                 . rw [length_append, hlen2]; lia
           . refine if_f (by simpa using hY) ?_; refine if_f (by decide) ?_; refine exs_nil (exs_nil (exs_nil (hK1 _ _ ?_))); rw [hnx] at quiet; exact quiet (fun Z h h2 => by cases h; exact hY h2)
   . exact ((List.perm_middle (l₁ := [(S, AEnt.list []), (L, AEnt.ns _), (cB, AEnt.cell none)]) (a := (W, AEnt.list (w0.map nA))) (l₂ := σ)).symm)
end
end
section
noncomputable def clsBody : List PySem.Stmt := match topSt 61 with
 | some (.ClassDef (body := b) ..) => b
 | _ => []
set_option genInjectivity false in
set_option genSizeOf false in
structure Ki (C : Cx) where
 K : Frag
 KX : ∀ h : Heap, (∀ a o, C.P₀ a = some o -> h.get? a = some o) -> K.In h
 kC : Addr
 kI : Addr
 kM : Addr
 fI : FuncData
 fM : FuncData
 g_comp : GN C "TupleComp" (.val (.ref kC))
 makes : makesIn K kC = true
 init : findIn K (.ref kC) "__init__" = some (some (.ref kI))
 initT : typeIn K (.ref kI) = some (.type "function")
 v_I : VR C.P₀ (.ref kI) (.fn fI)
 cmp : findIn K (.ref kC) "compare" = some (some (.ref kM))
 cmpT : typeIn K (.ref kM) = some (.type "function")
 v_M : VR C.P₀ (.ref kM) (.fn fM)
 ga : findIn K (.ref kC) "__getattribute__" = some (some (.builtin "object.__getattribute__"))
 gk : findIn K (.ref kC) "__getattr__" = some none
 sa : findIn K (.ref kC) "__setattr__" = some (some (.builtin "object.__setattr__"))
 over : plainOver K kC = true
 taker : takerIn K kC "comp_select_list" = some none
 hasD : hasDictIn K kC = true
 keep : keepIn K (.ref kC) = true
 attr : findIn K (.ref kC) "comp_select_list" = some none
 d_I : DefSt fI clsBody[0]? /\ Bare fI
 d_M : DefSt fM clsBody[1]? /\ Bare fM
section
variable {C : Cx} {A : Around} {σ σ' : St} {env : Env} {pos : Pos} (X : Wd C) (I : Ki C)
theorem ev_attr {value : Expr} (h : Ev C A (eval value env) σ fun a σ₁ => ∃ ds, a = .inst I.kC "comp_select_list" (.list ds) /\ Q (.list ds) σ₁) (hb : attributeBase value "comp_select_list" env (eval value env) = eval value env) : Ev C A (eval (.Attribute value "comp_select_list" pos) env) σ Q := by
 intro P s S; rw [arm_eval_Attribute, hb]; refine wpAny_bind (h.run S fun P₁ v a σ₁ s₁ l₁ S₁ r₁ ⟨ds, e, q₁⟩ => wpAny_bind (wpAny_standAt (wpAny_bind (wpAny_holding ?_)))); subst e; obtain ⟨_, _, _, _, _, rfl, h1, h2, h3, h4, r⟩ := r₁.inst_inv
 ·
   have J : InstAt s₁.heap _ _ I.kC (some _) := ⟨S₁.pool _ _ h1, rfl, rfl, S₁.pool _ _ h2⟩; refine get_value (I.KX _ S₁.old) J I.ga (findObj_own I.hasD I.attr rfl h3) (by obtain ⟨_, _, _, e, _, _⟩ := r.list_inv; rw [e]; rfl) ?_; exact wpAny_bind (wpAny_letTemporaryGo (wpAny_pure (Post.le l₁ (Post.mk (S₁.toks _) r q₁))))
theorem meth_cmp {ds : List AV} {pl : Sem Bool} : Meth C A "compare" pl (.inst I.kC "comp_select_list" (.list ds)) σ (.fn I.fM) [.inst I.kC "comp_select_list" (.list ds)] := by
 intro P s v S r K hK; have r' := r; obtain ⟨_, _, _, _, _, rfl, h1, h2, h3, h4, _⟩ := r.inst_inv
 ·
   have J : InstAt s.heap _ _ I.kC (some _) := ⟨S.pool _ _ h1, rfl, rfl, S.pool _ _ h2⟩; refine method_fn (I.KX _ S.old) J I.ga I.gk I.cmp I.cmpT ?_ (hK s _ _ S (I.v_M.mono S.base) (.cons r' .nil)); show (lookIn "compare" (dictOf _ _)).map _ = _; rw [lookIn_dict, h4 _ (by decide)]; rfl
noncomputable def cmpOf (w : Int) (l r : Int × Int) : Int := if l.1 < r.1 then -w else if r.1 < l.1 then w else if l.2 < r.2 then w else if r.2 < l.2 then -w else 0
noncomputable abbrev rowA (r : Int × Int × Int) : AV := .tuple [.int r.1, .int r.2.1, .int r.2.2]
noncomputable abbrev compA (w : Int) : AV := .inst I.kC "comp_select_list" (.list [.tuple [.int 0, .int w], .tuple [.int 1, .int (-w)]])
noncomputable def CmpE (l r : Int × Int × Int) (pre : List (Int × Int)) : Prop := (1 <= pre.length -> l.1 = r.1) /\ (2 <= pre.length -> l.2.1 = r.2.1)
theorem cmp_step {w k dir : Int} {l r : Int × Int × Int} {pre post : List (Int × Int)} (h : [((0 : Int), w), (1, -w)] = pre ++ (k, dir) :: post) (he : CmpE l r pre) : ∃ a b : Int, (0 <= k /\ k < 2 ^ 63) /\ [AV.int l.1, .int l.2.1, .int l.2.2][k.toNat]? = some (.int a) /\ [AV.int r.1, .int r.2.1, .int r.2.2][k.toNat]? = some (.int b) /\
   (a < b -> -dir = cmpOf w (l.1, l.2.1) (r.1, r.2.1)) /\ (b < a -> dir = cmpOf w (l.1, l.2.1) (r.1, r.2.1)) /\ (¬ a < b -> ¬ b < a -> CmpE l r (pre ++ [(k, dir)])) := by
 cases pre with
 | nil =>
   cases h; refine ⟨l.1, r.1, by decide, rfl, rfl, fun h => ?_, fun h => ?_, fun h1 h2 => ⟨fun _ => by omega, fun h => absurd (show 2 <= 1 from h) (by decide)⟩⟩
   . unfold cmpOf; rw [if_pos h]
   . unfold cmpOf; rw [if_neg (by omega), if_pos h]
 | cons p pre =>
   cases pre with
   | nil =>
     cases h; have e := he.1 (le_refl _); refine ⟨l.2.1, r.2.1, by decide, rfl, rfl, fun h => ?_, fun h => ?_, fun h1 h2 => ⟨fun _ => e, fun _ => by omega⟩⟩
     . unfold cmpOf; rw [if_neg (by simp only; omega), if_neg (by simp only; omega), if_pos h, Int.neg_neg]
     . unfold cmpOf; rw [if_neg (by simp only; omega), if_neg (by simp only; omega), if_neg (by simp only; omega), if_pos h]
   | cons q pre => rw [cons_append, cons_append] at h; injection h with _ h; injection h with _ h; cases pre <;> cases h
inductive CmpI (I : Ki C) (w : Int) (l r : Int × Int × Int) (L : Addr) (pre : List (Int × Int)) (τ : St) : St -> Prop
 | mk (o1 o2 o3 o4 : Option AV) (h : CmpE l r pre) : CmpI I w l r L pre τ ((L, .ns [("self", some (compA I w)), ("left", some (rowA l)), ("right", some (rowA r)), ("index", o1), ("direction", o2), ("l", o3), ("r", o4)]) :: τ)
inductive CmpR (I : Ki C) (w : Int) (l r : Int × Int × Int) (L : Addr) (d : AV) (τ : St) : St -> Prop
 | mk (e : AEnt) (h : d = .int (cmpOf w (l.1, l.2.1) (r.1, r.2.1))) : CmpR I w l r L d τ ((L, e) :: τ)
include X in
theorem cmp_call (hA : AOk 1 A) {w : Int} {l r : Int × Int × Int} (hQ : Q (.int (cmpOf w (l.1, l.2.1) (r.1, r.2.1))) σ) : CallV C A (.fn I.fM) [compA I w, rowA l, rowA r] [] σ Q := by
 have hf' : DefFd I.fM _ _ _ := I.d_M.1; refine callV_plain X.G hA hf' I.d_M.2 ["self", "left", "right"] ["index", "direction", "l", "r"] (by decide) (by walk_at "b") rfl ?_; intro L A' env hA' hE _; clear hf'; refine exs_cons ?_
 refine ex_forP (τ := σ) [((0 : Int), w), (1, -w)] (fun _ p => .tuple [.int p.1, .int p.2]) (CmpI I w l r L) (fun _ _ => False) (CmpR I w l r L)
   (fun _ τ σ h => by cases h with | mk _ _ _ _ h => exact ⟨[_], rfl, fun τ' => .mk _ _ _ _ h⟩) Par.no (fun _ τ σ h => by cases h with | mk e h => exact ⟨[_], rfl, fun τ' => .mk e h⟩) ?_ ?_ ?_ ?_ (fun _ => rfl)
 . refine evIter_of (ev_attr I ?_ rfl); walk_at "e"; exact ⟨_, rfl, _, mk_list (.tuple _ _ _) hA'.handled (.inl rfl), rfl, .mk none none none none ⟨fun h => (nomatch h), fun h => (nomatch h)⟩⟩
 . rintro pre ⟨k, dir⟩ post _ τ' hτ hl ⟨o1, o2, o3, o4, he⟩ K hK; obtain ⟨a, b, hk, ha, hb, h1, h2, h3⟩ := cmp_step hl he; refine as_tuple hA'.handled rfl rfl ?_; walk_at "a"; walk_at "a"; walk_at "g"; iterate 3 walk_at "e"
   refine st_tuple (k := k) (gi_tuple hk.1 hk.2 ha ?_) (fun _ _ => rfl); walk_at "a"; walk_at "g"; iterate 3 walk_at "e"
   refine st_tuple (k := k) (gi_tuple hk.1 hk.2 hb ?_) (fun _ _ => rfl); walk_at "a"; refine exs_cons (ex_if ?_); iterate 3 walk_at "e"
   refine cmp_lt ⟨_, rfl, ?_⟩; by_cases hab : a < b
   . refine if_t (by simpa using hab) ?_; refine exs_cons (ex_return ?_); iterate 2 walk_at "e"
     exact un_neg (hK _ _ ⟨_, .refl _, .mk _ (congrArg AV.int (h1 hab))⟩)
   . refine if_f (by simpa using hab) ?_; refine exs_nil (exs_cons (ex_if ?_)); iterate 3 walk_at "e"
     refine cmp_gt ⟨_, rfl, ?_⟩; by_cases hba : b < a
     . refine if_t (by simpa using hba) ?_; refine exs_cons (ex_return ?_); walk_at "e"; exact hK _ _ ⟨_, .refl _, .mk _ (congrArg AV.int (h2 hba))⟩
     . refine if_f (by simpa using hba) ?_; exact exs_nil (exs_nil (hK _ _ ⟨_, .refl _, .mk _ _ _ _ (h3 hab hba)⟩))
 . intro σ₁ h; replace h := h.resolve_right id; obtain ⟨o1, o2, o3, o4, he⟩ := h; refine exs_cons (ex_return ?_); walk_at "e"; refine ⟨_, _, rfl, sublist_cons_self _ _, ?_⟩; have e1 := he.1 (show 1 <= 2 by decide); have e2 := he.2 (show 2 <= 2 by decide); have e : cmpOf w (l.1, l.2.1) (r.1, r.2.1) = 0 := by unfold cmpOf; rw [if_neg (by simp only; omega), if_neg (by simp only; omega), if_neg (by simp only; omega), if_neg (by simp only; omega)]
   rw [<- e]; exact hQ
 . intro d σ₁ h; obtain ⟨e, rfl⟩ := h; exact ⟨_, _, rfl, sublist_cons_self _ _, hQ⟩
end
end
section
section
variable {C : Cx} {A : Around} {σ σ' : St} {env : Env} {pos : Pos} (X : Wd C) (I : Ki C)
theorem ev_call_cls {func e : Expr} {rest : List Expr}
   (h : Ev C A (eval func env) σ fun f σ₁ => f = .val (.ref I.kC) /\ Evs C A (spliced (backTo pos (starEach (e :: rest) env))) σ₁ fun ds σ₂ => CallV C A (.val (.ref I.kC)) ds [] σ₂ Q)
   (he : eval (.Call func (e :: rest) [] pos) env = (do callWith pos (<- eval func env) [] (backTo pos (starEach (e :: rest) env)) [])) (hst : starEach (e :: rest) env = (false, eval e env) :: starEach rest env) (ha : (backTo pos (starEach rest env)).any (·.1) = false) : Ev C A (eval (.Call func (e :: rest) [] pos) env) σ Q := by
 intro P s S; rw [he]; refine wpAny_bind (h.run S fun P₁ v₁ f σ₁ s₁ l₁ S₁ r₁ hzz => ?_); obtain ⟨e1, q₁⟩ := hzz; subst e1; obtain rfl := r₁.val_inv; have X₁ := I.KX _ S₁.old; refine callWith_K X₁ I.keep (q₁.run S₁ fun P₂ vs ds σ₂ s₂ l₂ S₂ r₂ q₂ => ⟨I.KX _ S₂.old, weakPost (l₁.trans l₂) (q₂ P₂ s₂ _ vs [] S₂ (.val _) r₂ .nil)⟩) hst ha
include X in
theorem mk_comp (hA : AOk 2 A) {ds : List AV} (hQ : Q (.inst I.kC "comp_select_list" (.list ds)) σ) : CallV C A (.val (.ref I.kC)) [.list ds] [] σ Q := by
 refine CallV.v1 fun P s va S r => ?_; have hXs := I.KX _ S.old; obtain ⟨hh, g, d, t, os⟩ := s; refine wpAny_call (make_core (makes_of hXs I.makes) (looks_findIn hXs I.init) (fun self => bind_fn hXs self I.initT) (.inl rfl) ?_); have hd := I.v_I
 cases hd with
 | @fn _ oI _ ho hdd hcd =>
 obtain ⟨c, oc, ovs, t', e1, e2, e3, e4⟩ := hcd; obtain ⟨hfI, hbI⟩ := I.d_I; have hfI' : DefFd I.fI _ _ _ := hfI; obtain ⟨f1, f2, f3, f4, f5, f6⟩ := hfI'; obtain ⟨b1, b2⟩ := hbI
 let H : Heap := (hh.push emptyDict).push (instObj I.kC hh.objs.size)
 have hk : ∀ b o, hh.get? b = some o -> H.get? b = some o := fun b o e => Heap.get?_push_of_some _ (Heap.get?_push_of_some _ e)
 have hbt : BindsTo ⟨H, g, d, t, os⟩ I.fI ⟨[.ref (hh.objs.size + 1), va], []⟩ [("self", .ref (hh.objs.size + 1)), ("comp_select_list", va)] := BindsTo.of_eq (by
   generalize I.fI = fd at *; obtain ⟨_, _, _, _, _, _, _, _, _, _, _, _, _, _, _⟩ := fd; dsimp only at f2 b1 b2; subst f2 b1 b2
   rfl)
 have hS₁ := S.heap (s := ⟨hh, g, d, t, os⟩) (h' := H) t hk; refine codeAny_call_def (s := ⟨H, g, d, t, os⟩) (fd := I.fI) (A := A.under (.builtin "type.__call__" ⟨[.ref I.kC, va], []⟩)) ?_ (hk _ _ (S.pool _ _ (S.base _ _ ho))) hdd (X.G.nolimit _ hS₁.old) ⟨c, oc, ovs, t', e1, hk _ _ (S.pool _ _ (S.base _ _ e2)), e3, e4⟩ f1 hbt ?_ ?_ (fun h₁ hns hk₁ => ?_) ?_ ?_ ?_
 . have := hA.depth
   have hw : (Code.builtin "type.__call__" ⟨[.ref I.kC, va], []⟩).weight <= 10 := by
     have w1 : (Code.builtin "type.__call__" ⟨[.ref I.kC, va], []⟩).frames = 0 := rfl; have w2 : (Code.builtin "type.__call__" ⟨[.ref I.kC, va], []⟩).isCreation = true := rfl; have w3 : (Code.builtin "type.__call__" ⟨[.ref I.kC, va], []⟩).isGuard = false := by unfold Code.isGuard; exact (by decide +kernel : guardIds.contains "type.__call__" = false)
     have w4 : (Code.builtin "type.__call__" ⟨[.ref I.kC, va], []⟩).isCaller = false := rfl; unfold Code.weight; rw [w1, w2, w3, w4]; decide
   show A.depth + (Code.builtin "type.__call__" ⟨[.ref I.kC, va], []⟩).weight < 1000
   lia
 . rw [f3]; decide
 . rw [f3]; intro x hx; rcases List.mem_cons.mp hx with rfl | hx
   . rfl
   . rw [List.mem_singleton.mp hx]; rfl
 . let L : Addr := H.objs.size
   let env := callEnv I.fI H.objs.size I.kI
   have hHs : H.objs.size = hh.objs.size + 2 := by show ((hh.push _).push _).objs.size = _; rw [Heap.size_push, Heap.size_push]
   have hx1 : h₁.get? (hh.objs.size + 1) = some (instObj I.kC hh.objs.size) := hk₁ _ _ (by
     have : (hh.push emptyDict).objs.size = hh.objs.size + 1 := Heap.size_push _ _; rw [<- this]; exact Heap.get?_push_size _ rfl)
   have hx2 : h₁.get? hh.objs.size = some (dictOf [] 0) := hk₁ _ _ (Heap.get?_push_of_some _ (Heap.get?_push_size _ rfl)); have F : Fr hh H.objs.size h₁ (fun y => ([("self", Value.ref (hh.objs.size + 1)), ("comp_select_list", va)] : List (Str × Value)).reverse.lookup y) := ⟨hns, fun b o e => hk₁ _ _ (hk _ _ e), by rw [hHs]; lia⟩
   have N : News hh H.objs.size h₁ [(hh.objs.size + 1, instObj I.kC hh.objs.size), (hh.objs.size, dictOf [] 0)] := by
     intro p hp; rcases List.mem_cons.mp hp with rfl | hp
     . exact ⟨hx1, by intro e; have e' : hh.objs.size + 1 = H.objs.size := e; lia, Heap.get?_none_of_le (le_succ _)⟩
     . rw [List.mem_singleton.mp hp]; exact ⟨hx2, by intro e; have e' : hh.objs.size = H.objs.size := e; lia, Heap.get?_none_of_le (le_refl _)⟩
   have hE : EnvIs env H.objs.size [("self", .local), ("comp_select_list", .local)] [] := by
     have sc : ScopeOk I.fI.scope := f3 ▸ scopeOk_of (by decide); refine envIs_of sc.kind ?_ ?_ ?_ ?_ rfl f4 f5 (fun x c hc => nomatch hc)
     . show I.fI.scope.names = _; rw [f3]
     . decide
     . decide
     . decide
   refine wpAny_execs_cons (plainObj_wpAny_Assign_Attribute ?_); refine wpAny_Name (wpAny_loadName_local hE.kind (hE.isLoc _ (by walk_at "m")) hns rfl ?_) rfl; refine wpAny_Name (wpAny_loadName_local hE.kind (hE.isLoc _ (by walk_at "m")) hns rfl ?_) rfl; have J : InstAt h₁ (hh.objs.size + 1) (instObj I.kC hh.objs.size) I.kC (some (dictOf [] 0)) := ⟨hx1, rfl, rfl, hx2⟩; refine set_dict (news' := [(hh.objs.size + 1, instObj I.kC hh.objs.size), (hh.objs.size, dictOf _ _)]) F hXs N J rfl I.sa I.over I.taker I.hasD rfl rfl (.tail (by simp) (.head (by simp))) ?_ (fun h' F' N' => ?_)
   . simp [putL]
   . refine wpAny_execs_nil ⟨rfl, ?_⟩; have n1 := N' _ (.head _); have n2 := N' _ (.tail _ (.head _)); have S₂ : Sat C P σ ⟨h', g, d, t + 2 + 2, os⟩ := S.heap (s := ⟨hh, g, d, t, os⟩) (h' := h') (t + 2 + 2) F'.keep; obtain ⟨q1, q2⟩ := S.none_of_fresh (a := hh.objs.size) (Heap.get?_none_of_le (le_refl _)); obtain ⟨q3, q4⟩ := S.none_of_fresh (a := hh.objs.size + 1) (Heap.get?_none_of_le (le_succ _)); have l1 := addP_le (dictOf (putL "comp_select_list" (PyData.keyHash C.w.params "comp_select_list") (.str "comp_select_list" (t + 2 + 1)) va []) (putN "comp_select_list" [] 0)) q1; have S₃ := S₂.frozen q1 q2 n2.1
     have q3' : addP P hh.objs.size (dictOf (putL "comp_select_list" (PyData.keyHash C.w.params "comp_select_list") (.str "comp_select_list" (t + 2 + 1)) va []) (putN "comp_select_list" [] 0)) (hh.objs.size + 1) = none := by
       unfold addP; rw [if_neg (Nat.succ_ne_self _)]; exact q3
     have l2 := addP_le (instObj I.kC hh.objs.size) q3'; have S₄ := S₃.frozen q3' q4 n1.1; refine ⟨_, _, σ, l1.trans l2, S₄, .inst (addP_self _ _ _) (l2 _ _ (addP_self _ _ _)) ?_ (fun y hy => ?_) (r.mono (l1.trans l2)), hQ⟩
     . rfl
     . have hne : (("comp_select_list" : Str) == y) = false := beq_eq_false_iff_ne.mpr fun e => hy e.symm
       show (match List.find? (fun e : DictEntry => e.key.isStr y) [⟨_, .str "comp_select_list" _, va⟩] with | some e => some (some e.val) | none => _) = _
       rw [List.find?_cons_of_neg (by show ¬ (("comp_select_list" : Str) == y) = true; rw [hne]; decide)]; rfl
 . rw [f3]
 . rw [f3]
 . rw [f3]
end
end
section
structure Sk {C : Cx} (X : Wd C) : Prop where
 bL : SeekD C X.bisL
 bR : SeekD C X.bisR
 iL : SeekD C X.insL
 iR : SeekD C X.insR
theorem ex3 {x : Str} {d : AV} {σ₁ σ₂ : St} {L : Addr} {Q : St -> Prop} {m m' : List (Str × Option AV)} (hu : Mine.Upd σ₁ L (.ns m) (.ns m') σ₂) (hm : SetM m x d m') (hq : Q σ₂) : ∃ m m' σ₂, SetM m x d m' /\ Mine.Upd σ₁ L (.ns m) (.ns m') σ₂ /\ Q σ₂ := ⟨m, m', σ₂, hm, hu, hq⟩
section
variable {C : Cx} {A : Around} {σ σ' : St} {env : Env} {pos : Pos} {L : Addr} {names : List (Str × NameKind)} {cells : List (Str × Addr)}
noncomputable def StAll (C : Cx) (A : Around) (env : Env) : List Str -> List AV -> St -> (Unit -> St -> Prop) -> Prop
 | [], [], σ, Q => Q () σ
 | n :: ns, d :: ds, σ, Q => Op1 RU C A (storeName env n) d σ fun _ σ₁ => StAll C A env ns ds σ₁ Q
 | _, _, _, _ => False
theorem stAll_run {ns : List Str} {ds : List AV} {vs : List Value} {σ : St} {Q : Unit -> St -> Prop} {P : Pool} {s : Shared} (h : StAll C A env ns ds σ Q) (S : Sat C P σ s) (rs : VRs P vs ds) :
   wpAny (model C.prog C.w) A (assignInOrder (ns.map fun n => bindName env n) vs) (Post RU C P Q) No s := by
 induction ns generalizing ds vs σ P s with
 | nil =>
   cases ds with
   | nil => obtain rfl := rs.nil_inv; exact wpAny_pure (Post.mk (b := ()) S trivial h)
   | cons d ds => exact h.elim
 | cons t ts ih =>
   cases ds with
   | nil => exact h.elim
   | cons d ds =>
     obtain ⟨v, ws, rfl, r, rs'⟩ := rs.cons_inv
     show wpAny _ _ (do holding ws (bindName env t v); assignInOrder (ts.map fun t => bindName env t) ws) _ _ _
     refine wpAny_bind (wpAny_holding (wpAny_bindName (wpAny_mono (h P s v S r) (fun _ s₁ h => ?_) fun _ _ x => x))); obtain ⟨P₁, _, σ₁, l₁, S₁, _, q₁⟩ := h; exact weakPost l₁ (ih q₁ S₁ (rs'.mono l₁))
theorem VRs.reverse {P : Pool} {vs : List Value} {ds : List AV} (h : VRs P vs ds) : VRs P vs.reverse ds.reverse := by
 induction h using VRs.ind with
 | nil => exact .nil
 | cons r _ ih => rw [List.reverse_cons, List.reverse_cons]; exact ih.append (.cons r .nil)
theorem swapped3 (hE : EnvIs env L names cells) {n1 n2 n3 : Str} {p1 p2 p3 tp vp : Pos} {k k' : Nat} {v1 v2 v3 : Expr} (h1 : (n1, .local) ∈ names) (h2 : (n2, .local) ∈ names) (h3 : (n3, .local) ∈ names) (hl2 : (p2.line == p1.line) = true) (hl3 : (p3.line == p1.line) = true)
   (hd : [n1, n2, n3].eraseDups.length = 3) (hs : ([v1, v2, v3].any fun | .Starred .. => true | _ => false) = false) (hf : [v1, v2, v3].all (foldedForSure 8) = false) (hc : [v1, v2, v3].all (constantsAlone 8) = false) :
   swappedStores [.Tuple [.Name n1 p1, .Name n2 p2, .Name n3 p3] k tp] (.Tuple [v1, v2, v3] k' vp) env = pure (some [n1, n2, n3]) := by
 unfold swappedStores; have e1 := hE.isLoc _ h1; have e2 := hE.isLoc _ h2; have e3 := hE.isLoc _ h3; have hb := blockKind_fn hE
 have hfm : ([.Name n1 p1, .Name n2 p2, .Name n3 p3] : List Expr).filterMap (fun
   | .Name id pos => if env.kindOf id == some .local && pos.line == p1.line then some id else none
   | _ => none) = [n1, n2, n3] := by
   simp only [List.filterMap_cons, e1, e2, e3, hl2, hl3, beq_self_eq_true, Bool.and_self, if_true, List.filterMap_nil]
 dsimp only [pure_bind]; rw [hb]; refine (if_neg (fun e => Bool.noConfusion e)).trans ((if_neg ?a).trans ((if_neg ?b).trans ((if_neg ?c).trans ((if_neg ?d).trans ?e))))
 case a => exact fun e => Bool.noConfusion (hs.symm.trans e)
 case b =>
   erw [hfm]
   rw [hd]; exact fun e => Bool.noConfusion e
 case c => rw [hf]; decide
 case d => rw [hc]; decide
 case e => exact congrArg (fun l => (pure (some l) : Sem (Option (List Str)))) hfm
theorem ex_assign_swap {value : Expr} {nm : List Str} {elts : List Expr} {k : Nat} {tpos : Pos} {Q : AFlow -> St -> Prop} (hh : A.handled = none)
   (h : Ev C A (eval value env) σ fun a σ₁ => ∃ ds, a = .tuple ds /\ nm.length = ds.length /\ StAll C A env nm.reverse ds.reverse σ₁ fun _ σ₂ => Q .next σ₂)
   (hs : swapsWithSole [.Tuple elts k tpos] value pos.line env = pure false) (hw : swappedStores [.Tuple elts k tpos] value env = pure (some nm)) : Ef C A (exec (.Assign [.Tuple elts k tpos] value pos) env) σ Q := by
 intro P s S; refine Assign_Tuple_swapped (h.run S fun P₁ v a σ₁ s₁ l₁ S₁ r₁ hzz => ?_) hs hw; obtain ⟨ds, e, hl, q₁⟩ := hzz; subst e; obtain ⟨t', vs, rfl, ht, rs⟩ := tup_get S₁ r₁; have hsz : nm.length = (List.toArray vs).size := by rw [size_toArray, rs.length, hl]
 rw [hsz]; refine unpackItems_tuple hh ht fun h' hx => ?_; have S' := S₁.heap s₁.toks (h' := h') fun b o e => hx b o (ne_of_lt (Heap.lt_size e)) e
 exact wpAny_mono (stAll_run q₁ S' rs.reverse) (fun _ s₂ hzz => by obtain ⟨P₂, _, σ₂, l₂, S₂, _, q₂⟩ := hzz; exact ⟨P₂, .next, σ₂, l₁.trans l₂, S₂, .next, q₂⟩) fun _ _ x => x
end
end
section
section
variable {C : Cx} {A : Around} {σ σ' : St} {d : AV}
theorem cv_range {n : Int} (hQ : ∀ t u v, Q (.obj (rangeO 0 n 1 t u v)) σ) : CallV C A (.val (.type "range")) [.int n] [] σ Q := by
 refine CallV.v1 fun P s v0 S r0 => ?_; obtain ⟨t, rfl⟩ := r0.int_inv; refine call_range_1 ?_; have S' := S.toks (s.toks + 1 + 1); obtain ⟨l', S₃⟩ := frozen_new (h := s.heap) S' (o := rangeO 0 n 1 s.toks _ (s.toks + 1)) rfl (s.toks + 1 + 1); exact ⟨_, _, _, l', S₃, .obj (addP_self _ _ _), hQ _ _ _⟩
theorem meth_dict {ds : List (Int × AV)} {name : Str} {id : String} {pl : Sem Bool} (hd : RdD σ d ds) (slot : Slot "dict" name id) (hty : typeOf (.builtin id) = pure (.type "method_descriptor")) : Meth C A name pl d σ (.val (.builtin id)) [d] := by
 intro P s v S r K hK; obtain ⟨a, kvs, rfl, q, g1, g2, g3⟩ := hd.get S r; exact PySem.getMethod_builtin g1.typeIs F.plainAttrs_dict slot hty g1.mapOf.noDict (hK s _ _ S (.val _) (.cons r .nil))
theorem cv_dict_get {ds : List (Int × AV)} {k : Int} {e : AV} (hd : RdD σ d ds) (hQ : Q ((gGet ds k).getD e) σ) : CallV C A (.val (.builtin "dict.get")) [d, .int k, e] [] σ Q := by
 refine CallV.v3 fun P s v0 v1 v2 S r rk re => ?_; cases rk; obtain ⟨a, kvs, rfl, q, g1, g2, g3⟩ := hd.get S r; refine call_meetsIn PySem.F.slot_dict_get g1.typeIs PySem.F.entry_dict_get (PySem.F.args_dict_get_3 _ _ _) (meets_dict_get_default (intKind C.prog C.w) a (k := k) (by show (_ == _) = true; simp) q _) ⟨_, g1.mapOf, ?_⟩
 cases hg : gGet ds k with
 | none =>
   rw [hg] at hQ; rw [g2.find.2 hg]; exact Post.mk (S.toks _) re hQ
 | some e' =>
   rw [hg] at hQ; obtain ⟨w, e1, e2⟩ := g2.find.1 _ hg; rw [e1]; exact Post.mk (S.toks _) e2 hQ
end
end
section
noncomputable abbrev fA (f : List (Int × List Int)) : List (Int × AV) := f.map fun p => (p.1, AV.list (p.2.map AV.int))
noncomputable def fitAdd (f : List (Int × List Int)) (e : Int × Int) : List (Int × List Int) := gPut f e.1 ((gGet f e.1).getD [] ++ [e.2])
noncomputable def fitAll (E : List (Int × Int)) : List (Int × List Int) := E.foldl fitAdd []
theorem fitAll_snoc (E : List (Int × Int)) (e : Int × Int) : fitAll (E ++ [e]) = fitAdd (fitAll E) e := by unfold fitAll; rw [foldl_append]; rfl
theorem fitAll_len : ∀ (E : List (Int × Int)), (fitAll E).length <= E.length := by
 have h : ∀ (E : List (Int × Int)) (f : List (Int × List Int)), (E.foldl fitAdd f).length <= f.length + E.length := by
   intro E
   induction E with
   | nil => intro f; simp
   | cons e E ih =>
     intro f; have h1 := ih (fitAdd f e); have h2 : (fitAdd f e).length <= f.length + 1 := gPut_len; rw [foldl_cons, length_cons]; exact le_trans h1 (le_trans (add_le_add_right h2 _) (le_of_eq (add_right_comm f.length 1 E.length)))
 intro E; have := h E []; simpa [fitAll] using this
theorem fitAll_get (j : Int) : ∀ (E : List (Int × Int)), ((gGet (fitAll E) j).getD []) = (E.filter (fun e => e.1 = j)).map (·.2) /\ ((gGet (fitAll E) j).isSome = true ↔ ∃ e ∈ E, e.1 = j) := by
 intro E
 induction h : E.length generalizing E with
 | zero => obtain rfl := List.length_eq_zero_iff.mp h; simp [fitAll, gGet]
 | succ n ih =>
   rcases eq_nil_or_concat E with rfl | ⟨E', e, rfl⟩
   . cases h
   rw [concat_eq_append] at h ⊢; obtain ⟨h1, h2⟩ := ih E' (by simpa using h); rw [fitAll_snoc]; unfold fitAdd; rw [gGet_put]; by_cases he : e.1 = j
   . subst he; simp [h1]
   . simp only [he, if_false]; rw [List.filter_append]; refine ⟨by rw [h1]; simp [he], by rw [h2]; simp [he]⟩
theorem fitAll_item_len (E : List (Int × Int)) (j : Int) : ((gGet (fitAll E) j).getD []).length <= E.length := by
 rw [(fitAll_get j E).1, length_map]; exact List.length_filter_le _ _
noncomputable def rowAt (rule : List Int) (row : Int) : Nat -> Int
 | 0 => row
 | k + 1 => 512 * rowAt rule row k + rule.getD (k + 1) 0
noncomputable def evR (n : Nat) (rule : List Int) (row : Int) (k : Nat) : List (Int × Int) := if rowAt rule row k < 512 ^ 3 then [(rowAt rule row k, 8 * (n : Int) + k)] else []
noncomputable def suR (rule : List Int) (row : Int) (k : Nat) : List (Int × Int) := if rowAt rule row k < 512 ^ 3 /\ k + 1 < rule.length /\ 255 < rule.getD (k + 1) 0 then [(rule.getD (k + 1) 0, rowAt rule row k)] else []
noncomputable def evsRule (n : Nat) (rule : List Int) (p : Int × Int) : List (Int × Int) := if rule.headD 0 = p.1 then (List.range rule.length).flatMap (evR n rule p.2) else []
noncomputable def susRule (rule : List Int) (p : Int × Int) : List (Int × Int) := if rule.headD 0 = p.1 then (List.range rule.length).flatMap (suR rule p.2) else []
noncomputable def evsFrom : Nat -> List (List Int) -> Int × Int -> List (Int × Int)
 | _, [], _ => []
 | j, r :: l, p => evsRule j r p ++ evsFrom (j + 1) l p
theorem evsFrom_c (j : Nat) (r : List Int) (l : List (List Int)) (p : Int × Int) : evsFrom j (r :: l) p = evsRule j r p ++ evsFrom (j + 1) l p := rfl
noncomputable def susOf (l : List (List Int)) (p : Int × Int) : List (Int × Int) := l.flatMap fun r => susRule r p
theorem evsFrom_snoc (p : Int × Int) (r : List Int) : ∀ (l : List (List Int)) (j : Nat), evsFrom j (l ++ [r]) p = evsFrom j l p ++ evsRule (j + l.length) r p
 | [], j => by rw [length_nil, add_zero]; exact append_nil _
 | x :: l, j => by
   show evsRule j x p ++ evsFrom (j + 1) (l ++ [r]) p = evsRule j x p ++ evsFrom (j + 1) l p ++ _; rw [evsFrom_snoc p r l (j + 1), append_assoc]
   congr 3
   rw [length_cons, add_right_comm]; rfl
theorem susOf_snoc (p : Int × Int) (r : List Int) (l : List (List Int)) : susOf (l ++ [r]) p = susOf l p ++ susRule r p := by unfold susOf; simp
inductive AheadI (rs : List (List Int)) : Int × Int -> Prop
 | base : AheadI rs (256, 0)
 | step {p q : Int × Int} : AheadI rs p -> q ∈ susOf rs p -> AheadI rs q
structure FitRes (rs : List (List Int)) (A E : List (Int × Int)) : Prop where
 nd : A.Nodup
 base : (256, 0) ∈ A
 evs : E = A.flatMap (evsFrom 0 rs)
 clo : ∀ p ∈ A, ∀ q ∈ susOf rs p, q ∈ A
 ok : ∀ p ∈ A, AheadI rs p
theorem evR_len (n : Nat) (rule : List Int) (row : Int) (k : Nat) : (evR n rule row k).length <= 1 := by unfold evR; split <;> simp
theorem flat_len {α β : Type} {f : α -> List β} {c : Nat} : ∀ {l : List α}, (∀ x ∈ l, (f x).length <= c) -> (l.flatMap f).length <= c * l.length
 | [], _ => by simp
 | x :: l, h => by
   rw [flatMap_cons, length_append, length_cons, mul_succ]; have h1 := h x mem_cons_self; have h2 := flat_len (f := f) (c := c) (l := l) fun y hy => h y (mem_cons_of_mem _ hy); rw [add_comm]; exact add_le_add h2 h1
theorem evsRule_len (n : Nat) (rule : List Int) (p : Int × Int) : (evsRule n rule p).length <= rule.length := by
 unfold evsRule; split
 . have := flat_len (f := evR n rule p.2) (c := 1) (l := List.range rule.length) fun x _ => evR_len _ _ _ _; simpa using this
 . simp
theorem evsFrom_len {p : Int × Int} : ∀ {l : List (List Int)} {j : Nat}, (∀ r ∈ l, r.length <= 8) -> (evsFrom j l p).length <= 8 * l.length
 | [], _, _ => zero_le _
 | r :: l, j, h => by
   have h1 := evsRule_len j r p; have h2 := evsFrom_len (p := p) (l := l) (j := j + 1) fun x hx => h x (mem_cons_of_mem _ hx); have h3 := h r mem_cons_self; show (evsRule j r p ++ evsFrom (j + 1) l p).length <= _; rw [length_append, length_cons, mul_succ, add_comm]; exact add_le_add h2 (le_trans h1 h3)
theorem nodup_sub_len {α : Type} [DecidableEq α] {l m : List α} (hn : l.Nodup) (hs : ∀ x ∈ l, x ∈ m) : l.length <= m.length := by
 induction l generalizing m with
 | nil => exact zero_le _
 | cons x l ih =>
   rw [nodup_cons] at hn; have hx := hs x mem_cons_self; have := ih (m := m.erase x) hn.2 fun y hy => (List.mem_erase_of_ne (fun e : y = x => hn.1 (e ▸ hy))).mpr (hs y (mem_cons_of_mem _ hy)); rw [List.length_erase_of_mem hx] at this; exact le_trans (succ_le_succ this) (le_of_eq (sub_add_cancel (List.length_pos_of_mem hx)))
end
section
section
variable {C : Cx} {A : Around} {σ σ' : St} (X : Wd C)
noncomputable abbrev pA (p : Int × Int) : AV := .tuple [.int p.1, .int p.2]
theorem pA_tA (p : Int × Int) : pA p = tA [p.1, p.2] := rfl
theorem Ev.point {t : Sem Value} (d : AV) (h : Ev C A t σ fun d' σ' => d' = d /\ σ' = σ) (hq : Q d σ) : Ev C A t σ Q :=
 h.mono fun _ _ ⟨e1, e2⟩ => by rw [e1, e2]; exact hq
theorem Eb.point {t : Sem Bool} {Q : Bool -> St -> Prop} (d : Bool) (h : Eb C A t σ fun d' σ' => d' = d /\ σ' = σ) (hq : Q d σ) : Eb C A t σ Q :=
 h.mono fun _ _ ⟨e1, e2⟩ => by rw [e1, e2]; exact hq
theorem enumD_lst {α : Type} (g : α -> AV) : ∀ (i : Nat) (l : List α), enumD i (l.map g) = lst (fun i a => .tuple [.int i, g a]) i l
 | _, [] => rfl
 | i, a :: l => congrArg _ (enumD_lst g (i + 1) l)
structure AsOk (rs : List (List Int)) (U As : List (Int × Int)) : Prop where
 nd : As.Nodup
 sub : ∀ q ∈ As, q ∈ U
 ok : ∀ q ∈ As, AheadI rs q
theorem AsOk.add {rs : List (List Int)} {U As : List (Int × Int)} (h : AsOk rs U As) {q : Int × Int} (hq : q ∉ As) (hU : q ∈ U) (ha : AheadI rs q) : AsOk rs U (As ++ [q]) := by
 refine ⟨?_, fun x hx => ?_, fun x hx => ?_⟩
 . rw [nodup_append]; exact ⟨h.nd, List.nodup_cons.mpr ⟨fun h => (nomatch h), nodup_nil⟩, fun x hx y hy e => hq (by rw [<- List.mem_singleton.mp hy, <- e]; exact hx)⟩
 . rcases List.mem_append.mp hx with h' | h'
   . exact h.sub x h'
   . rw [List.mem_singleton.mp h']; exact hU
 . rcases List.mem_append.mp hx with h' | h'
   . exact h.ok x h'
   . rw [List.mem_singleton.mp h']; exact ha
theorem AsOk.len {rs : List (List Int)} {U As : List (Int × Int)} (h : AsOk rs U As) : As.length <= U.length := nodup_sub_len h.nd h.sub
noncomputable abbrev ftS (rs : List (List Int)) (F D L : Addr) (σ : St) (E As : List (Int × Int)) (p : Nat) (o1 o2 o3 o4 o5 o6 : Option AV) : St :=
 (F, .dict (fA (fitAll E))) :: (D, .list (As.map pA)) :: (L, .ns [("rules", some (.list (rs.map tA))), ("ahead", some (.val (.ref D))), ("fitting", some (.val (.ref F))), ("place", some (.int p)), ("left", o1), ("word", o2), ("number", o3), ("rule", o4), ("row", o5), ("read", o6)]) :: σ
inductive FitI (rs : List (List Int)) (U : List (Int × Int)) (F D L : Addr) (σ : St) : Nat -> St -> Prop
 | mk (p : Nat) (As E : List (Int × Int)) (o1 o2 o3 o4 o5 o6 : Option AV) (hp : p <= As.length) (ok : AsOk rs U As) (h0 : (256, 0) ∈ As) (hE : E = (As.take p).flatMap (evsFrom 0 rs)) (hcl : ∀ a ∈ As.take p, ∀ q ∈ susOf rs a, q ∈ As) :
   FitI rs U F D L σ (U.length - p) (ftS rs F D L σ E As p o1 o2 o3 o4 o5 o6)
inductive FitJ (rs : List (List Int)) (U : List (Int × Int)) (F D L : Addr) (p : Nat) (a : Int × Int) (As E : List (Int × Int)) (pre : List (List Int)) (τ : St) : St -> Prop
 | mk (As1 ex E1 : List (Int × Int)) (o3 o4 o5 o6 : Option AV) (hex : As1 = As ++ ex) (hE : E1 = E ++ evsFrom 0 pre a) (ok : AsOk rs U As1) (hsu : ∀ q ∈ susOf pre a, q ∈ As1) :
   FitJ rs U F D L p a As E pre τ (ftS rs F D L τ E1 As1 p (some (.int a.1)) (some (.int a.2)) o3 o4 o5 o6)
theorem FitJ.par {rs : List (List Int)} {U : List (Int × Int)} {F D L : Addr} {p : Nat} {a : Int × Int} {As E : List (Int × Int)} {pre : List (List Int)} : Par (FitJ rs U F D L p a As E pre) := fun τ σ h => by
 cases h with | mk As1 ex E1 o3 o4 o5 o6 h1 h2 h3 h4 => exact ⟨[_, _, _], rfl, fun τ' => .mk As1 ex E1 o3 o4 o5 o6 h1 h2 h3 h4⟩
inductive FitK (rs : List (List Int)) (U : List (Int × Int)) (F D L : Addr) (p : Nat) (a : Int × Int) (As E1 : List (Int × Int)) (n : Nat) (rule : List Int) (su : List (Int × Int)) (pre : List Nat) (τ : St) : St -> Prop
 | mk (As2 ex E2 : List (Int × Int)) (row : Int) (o6 : Option AV) (hex : As2 = As ++ ex) (hE : E2 = E1 ++ pre.flatMap (evR n rule a.2)) (hrow : row = if pre.length = 0 then a.2 else rowAt rule a.2 (pre.length - 1)) (ok : AsOk rs U As2)
     (hsu : ∀ q ∈ su, q ∈ As2) (hsu3 : ∀ q ∈ pre.flatMap (suR rule a.2), q ∈ As2) :
   FitK rs U F D L p a As E1 n rule su pre τ (ftS rs F D L τ E2 As2 p (some (.int a.1)) (some (.int a.2)) (some (.int n)) (some (tA rule)) (some (.int row)) o6)
theorem FitK.par {rs : List (List Int)} {U : List (Int × Int)} {F D L : Addr} {p : Nat} {a : Int × Int} {As E1 : List (Int × Int)} {n : Nat} {rule : List Int} {su : List (Int × Int)} {pre : List Nat} : Par (FitK rs U F D L p a As E1 n rule su pre) := fun τ σ h => by
 cases h with | mk As2 ex E2 row o6 h1 h2 h3 h4 h5 h6 => exact ⟨[_, _, _], rfl, fun τ' => .mk As2 ex E2 row o6 h1 h2 h3 h4 h5 h6⟩
theorem fitK_next {rs : List (List Int)} {U : List (Int × Int)} {F D L : Addr} {p : Nat} {a : Int × Int} {As E1 : List (Int × Int)} {n : Nat} {rule : List Int} {su : List (Int × Int)} {τ : St} {k : Nat} {As2 ex E2 : List (Int × Int)} (hex : As2 = As ++ ex) (hE : E2 = E1 ++ (List.range k).flatMap (evR n rule a.2))
   (hsu : ∀ q ∈ su, q ∈ As2) (hsu3 : ∀ q ∈ (List.range k).flatMap (suR rule a.2), q ∈ As2) (e3 : List (Int × Int)) (ok : AsOk rs U (As2 ++ e3)) (h3 : ∀ q ∈ suR rule a.2 k, q ∈ As2 ++ e3) (o6 : Option AV) :
   FitK rs U F D L p a As E1 n rule su (List.range k ++ [k]) τ (ftS rs F D L τ (E2 ++ evR n rule a.2 k) (As2 ++ e3) p (some (.int a.1)) (some (.int a.2)) (some (.int n)) (some (tA rule)) (some (.int (rowAt rule a.2 k))) o6) := by
 refine .mk _ (ex ++ e3) _ _ _ (by rw [hex, append_assoc]) (by rw [hE, append_assoc, flatMap_append, flatMap_cons, flatMap_nil, append_nil]) (by rw [length_append, length_range]; rfl) ok (fun q hq => mem_append_left _ (hsu q hq)) fun q hq => ?_; rw [flatMap_append, flatMap_cons, flatMap_nil, append_nil] at hq; rcases List.mem_append.mp hq with h | h
 . exact mem_append_left _ (hsu3 q h)
 . exact h3 q h
theorem head_get {rule : List Int} (h : rule ≠ []) : (rule.map AV.int)[0]? = some (.int (rule.headD 0)) := by
 cases rule with
 | nil => exact absurd rfl h
 | cons x l => rfl
theorem getD_get {rule : List Int} (j : Nat) (hj : j < rule.length) : (rule.map AV.int)[j]? = some (.int (rule.getD j 0)) := by
 rw [getElem?_map, getElem?_eq_getElem hj, getD_eq_getElem?_getD, getElem?_eq_getElem hj]; rfl
theorem fit_put (E2 : List (Int × Int)) (n : Nat) (rule : List Int) (w : Int) (k : Nat) (h : rowAt rule w k < 512 ^ 3) :
   gPut (fA (fitAll E2)) (rowAt rule w k) (.list (((gGet (fitAll E2) (rowAt rule w k)).getD []).map AV.int ++ [.int (8 * ((n : Nat) : Int) + k)])) = fA (fitAll (E2 ++ evR n rule w k)) := by
 unfold evR; rw [if_pos h, fitAll_snoc]; unfold fitAdd; have := gPut_map (fun l : List Int => AV.list (l.map AV.int)) (fitAll E2) (rowAt rule w k) ((gGet (fitAll E2) (rowAt rule w k)).getD [] ++ [8 * ((n : Nat) : Int) + k]); rw [map_append] at this; exact this
theorem fit_getD (E : List (Int × Int)) (i : Int) : (gGet (fA (fitAll E)) i).getD (.list []) = .list (((gGet (fitAll E) i).getD []).map AV.int) := by
 rw [gGet_map (fun l : List Int => AV.list (l.map AV.int))]; cases gGet (fitAll E) i <;> rfl
theorem mem_pairs {l : List (Int × Int)} {x y : Int} : ([x, y] : List Int) ∈ (l.map fun q => [q.1, q.2]) ↔ (x, y) ∈ l := by
 constructor
 . intro h; obtain ⟨q, hq, e⟩ := List.mem_map.mp h; injection e with e1 e2; injection e2 with e2 _; rw [<- e1, <- e2]; exact hq
 . intro h; exact mem_map_of_mem (f := fun q : Int × Int => [q.1, q.2]) h
noncomputable def ruleM (rule : List Int) (x : Int) : Nat := if rule.headD 0 = x then rule.length else 0
theorem ruleM_pos {rule : List Int} {x : Int} {k : Nat} (h : k < ruleM rule x) : rule.headD 0 = x /\ k < rule.length := by
 unfold ruleM at h; split at h
 . exact ⟨by assumption, h⟩
 . exact absurd h (not_lt_zero _)
theorem ruleM_ev (n : Nat) (rule : List Int) (a : Int × Int) : (List.range (ruleM rule a.1)).flatMap (evR n rule a.2) = evsRule n rule a /\ (List.range (ruleM rule a.1)).flatMap (suR rule a.2) = susRule rule a := by
 unfold evsRule susRule ruleM; split <;> exact ⟨rfl, rfl⟩
theorem range_flat_len (n : Nat) (rule : List Int) (w : Int) (k : Nat) : ((List.range k).flatMap (evR n rule w)).length <= k := by
 have := flat_len (f := evR n rule w) (c := 1) (l := List.range k) fun x _ => evR_len _ _ _ _; rwa [length_range, Nat.one_mul] at this
theorem take_snoc {α : Type} {l ex : List α} {p : Nat} {a : α} (h : l[p]? = some a) : (l ++ ex).take (p + 1) = l.take p ++ [a] := by
 have hp := (List.getElem?_eq_some_iff.mp h).1; rw [List.take_append_of_le_length hp, List.take_add_one, h]; rfl
include X in
theorem fitt_call (hA : AOk 2 A) {rs : List (List Int)} {U : List (Int × Int)} (hrs : ∀ r ∈ rs, r ≠ []) (hlen : rs.length <= 8) (hrl : ∀ r ∈ rs, r.length <= 8) (hU0 : (256, 0) ∈ U) (hUs : ∀ p ∈ U, ∀ q ∈ susOf rs p, q ∈ U) (hUl : U.length <= 1000)
   {Q : AV -> St -> Prop} (hQ : ∀ As E, FitRes rs As E -> Q (.dict (fA (fitAll E))) σ) : CallV C A (.fn X.fitt) [.list (rs.map tA)] [] σ Q := by
 refine callV_freeze ?_; have hf' : DefFd X.fitt _ _ _ := X.d_fitt.1; refine callV_plain X.G hA hf' X.d_fitt.2 ["rules"] ["ahead", "fitting", "place", "left", "word", "number", "rule", "row", "read"] (by decide) (by walk_at "b") rfl ?_; intro L A' env hA' hE _; clear hf'; refine Wp.cps fun K0 hK0 => ?_; refine exs_cons (ex_assign_swap hA'.handled ?_ rfl (swapped3 hE (n1 := "ahead") (n2 := "fitting") (n3 := "place") (by walk_at "m") (by walk_at "m") (by walk_at "m") rfl rfl (by decide) rfl rfl rfl)); refine ev_tuple ?_; walk_at "e"; refine ev_list_new ?_; iterate 7 walk_at "e"
 refine ⟨szle rfl, ?_⟩; walk_at "e"; refine ⟨szle rfl, fun D => ?_⟩; walk_at "e"; refine ev_dict_new X.G fun F => ?_; iterate 3 walk_at "e"
 refine ⟨szle rfl, _, rfl, rfl, ?_⟩; refine stl_loc (by assumption) (by walk_at "m") (by walk_at "m") (by walk_at "m") ?_; refine stl_loc (by assumption) (by walk_at "m") (by walk_at "m") (by walk_at "m") ?_; refine stl_loc (by assumption) (by walk_at "m") (by walk_at "m") (by walk_at "m") ?_; refine exs_cons ?_
 refine ex_while (FitI rs U F D L σ) _
   (.mk 0 [(256, 0)] [] none none none none none none (zero_le _) ⟨by simp, by simpa using hU0, fun q hq => by rw [List.mem_singleton.mp hq]; exact .base⟩ mem_cons_self rfl (by simp)) ?_
 rintro n₁ σ₁ ⟨p, As, E, o1, o2, o3, o4, o5, o6, hp, ok, h0, hE1, hcl⟩ K hK; have hAl := le_trans ok.len hUl; have hz1 : (As.map pA).length <= sizeLine := szm (le_trans hAl (by decide)); iterate 4 walk_at "e"
 refine ⟨.inl rfl, .builtin _, ?_⟩; iterate 3 walk_at "e"
 refine kw_nil ?_; refine cv_len_list (.led (by walk_at "m")) hz1 ?_; rw [length_map]; refine cmp_lt ⟨_, rfl, ?_⟩; by_cases hlt : (p : Int) < As.length
 case neg =>
   refine if_f (by simpa using hlt) ?_; refine exs_nil (exs_cons (ex_return ?_)); walk_at "e"; have hpe : p = As.length := le_antisymm hp (Int.ofNat_le.mp (Int.not_lt.mp hlt)); exact hK0 _ _ ⟨_, (F, .dict (fA (fitAll E))) :: σ, rfl, ((sublist_cons_self _ _).trans (sublist_cons_self _ _)).cons_cons _, F, _, _, _, .dict _, hQ As E ⟨ok.nd, h0, by rw [hE1, hpe, List.take_length], fun a ha q hq => hcl a (by rw [hpe, List.take_length]; exact ha) q hq, ok.ok⟩⟩
 refine if_t (by simpa using hlt) ?_; have hpl : p < As.length := Int.ofNat_lt.mp hlt; have hp9 : p < 1000000000 := lt_of_lt_of_le hpl (le_trans hAl (by decide)); obtain ⟨a, ha⟩ : ∃ a, As[p]? = some a := ⟨_, getElem?_eq_getElem hpl⟩; have haA : a ∈ As := mem_of_getElem? ha
 have hE1l : E.length <= 64000 := by
   rw [hE1]; have := flat_len (f := evsFrom 0 rs) (c := 64) (l := As.take p) fun x _ => by have := evsFrom_len (p := x) (j := 0) hrl; lia
   rw [length_take] at this; exact le_trans this (le_trans (mul_le_mul_left 64 (le_trans (min_le_right _ _) hAl)) (by decide))
 walk_at "g"; iterate 3 walk_at "e"
 refine st_listN (.led (by walk_at "m")) hp9 (e := pA a) (by rw [getElem?_map, ha]; rfl) (fun _ _ => rfl) ?_; refine as_tuple hA'.handled rfl rfl ?_; walk_at "a"; walk_at "a"; refine exs_cons ?_; refine ex_forP (τ := σ) rs (fun i r => .tuple [.int i, tA r]) (FitJ rs U F D L p a As E) (fun _ _ => False) (fun _ _ _ => False) (fun _ => FitJ.par) Par.no (fun _ => Par.no) ?_ ?_ ?_ (fun _ _ h => h.elim) (fun _ => rfl)
 . refine evIter_call (T := "enumerate") ?_ rfl rfl ⟨_, _, rfl⟩; walk_at "e"; refine ⟨rfl, ?_⟩; iterate 3 walk_at "e"
   exact ⟨_, mkc_enum_list hA'.handled (.inl rfl), enumD_lst tA 0 rs, .mk As [] E o3 o4 o5 o6 (append_nil _).symm (append_nil _).symm ok (fun q hq => (nomatch hq))⟩
 . rintro pre rule post _ τ' hτ hrs1 ⟨As1, ex, E1, p3, p4, p5, p6, hex, hE2, ok1, hsu1⟩ K1 hK1; have hrm : rule ∈ rs := by rw [hrs1]; simp
   have hrl8 := hrl _ hrm; have hpre := pre_len hrs1
   have hE1l2 : E1.length <= 64064 := by
     have h3 : ∀ r ∈ pre, r.length <= 8 := fun x hx => hrl x (by rw [hrs1]; exact mem_append_left _ hx); have := evsFrom_len (p := a) (l := pre) (j := 0) h3; rw [hE2, length_append]; exact add_le_add hE1l (le_trans this (mul_le_mul_left 8 (le_trans hpre hlen)))
   refine as_tuple hA'.handled rfl rfl ?_; walk_at "a"; walk_at "a"; walk_at "g"; walk_at "e"; walk_at "a"; refine exs_cons ?_; refine ex_forP (τ := τ') (List.range (ruleM rule a.1)) (fun _ i => .int i) (FitK rs U F D L p a As E1 pre.length rule (susOf pre a)) (fun _ _ => False) (fun _ _ _ => False) (fun _ => FitK.par) Par.no (fun _ => Par.no) ?_ ?_ ?_ (fun _ _ h => h.elim) (fun _ => rfl)
   . refine evIter_of ?_; iterate 2 walk_at "e"
     refine ⟨.inl rfl, .type _, ?_⟩; iterate 6 walk_at "e"
     refine st_tupN 0 (by decide) (head_get (hrs _ hrm)) (fun _ _ => rfl) ?_; walk_at "e"; refine cmp_eq ⟨_, rfl, ?_⟩; have e0 : ∀ m, (List.range m).map (fun i : Nat => AV.int i) = lst (fun _ (i : Nat) => .int i) 0 (List.range m) := fun m => lst_map (fun i : Nat => AV.int i) 0 _; have I0 : FitK rs U F D L p a As E1 pre.length rule (susOf pre a) [] τ' (ftS rs F D L τ' E1 As1 p (some (.int a.1)) (some (.int a.2)) (some (.int pre.length)) (some (tA rule)) (some (.int a.2)) p6) := .mk As1 ex E1 a.2 p6 hex (append_nil _).symm rfl ok1 hsu1 fun q hq => (nomatch hq); by_cases heq : rule.headD 0 = a.1
     . refine if_t (by simpa using heq) ?_; have hm : rule.length = ruleM rule a.1 := by unfold ruleM; rw [if_pos heq]
       iterate 2 walk_at "e"
       refine ⟨.inl rfl, .builtin _, ?_⟩; iterate 3 walk_at "e"
       refine kw_nil ?_; refine cv_len_tuple (szm (le_trans hrl8 (by decide))) ?_; rw [length_map]; walk_at "e"; refine kw_nil ?_; refine cv_range fun t u v => ?_; exact ⟨_, mk_range (.name _ _) hA'.handled (le_trans hrl8 (by decide)), by rw [e0, hm], I0⟩
     . refine if_f (by simpa using heq) ?_; have hm : ruleM rule a.1 = 0 := by unfold ruleM; rw [if_neg heq]
       iterate 2 walk_at "e"
       refine kw_nil ?_; refine cv_range (n := ((0 : Nat) : Int)) fun t u v => ?_; exact ⟨_, mk_range (.name _ _) hA'.handled (by decide), by rw [e0, hm], I0⟩
   . rintro pre2 k post2 _ τ'' hτ2 hl2 ⟨As2, ex2, E2, row, p7, hex2, hE3, hrow, ok2, hsu2, hsu3⟩ K2 hK2; obtain ⟨e2, hkm⟩ := range_split hl2; obtain ⟨hha, hkl⟩ := ruleM_pos hkm; rw [e2] at hE3 hrow hsu3 hK2; rw [length_range] at hrow; have hk9 : k + 1 < 1000000000 := by lia
     have hE2l : E2.length <= 65000 := by
       have := range_flat_len pre.length rule a.2 k; rw [hE3, length_append]; exact le_trans (add_le_add hE1l2 (le_trans this (le_trans (le_of_lt hkl) hrl8))) (by decide)
     have hzA : (As2.map pA).length <= sizeLine := szm (le_trans (le_trans ok2.len hUl) (by decide)); walk_at "a"; walk_at "g"; refine Ev.point (.int (rowAt rule a.2 k)) ?_ ?_
     . walk_at "e"; iterate 2 walk_at "e"
       refine tr_int ?_
       cases k with
       | zero =>
         refine if_f (by decide) ?_; walk_at "e"; exact ⟨by rw [hrow]; rfl, rfl⟩
       | succ j =>
         refine if_t (by simp; lia) ?_; iterate 4 walk_at "e"
         refine bin_mul ?_ (.inl (by decide)); iterate 3 walk_at "e"
         refine st_tupN (j + 1) (lt_of_succ_lt hk9) (getD_get _ hkl) (fun _ _ => rfl) ?_; refine bin_add ⟨?_, rfl⟩; rw [hrow]; rfl
     walk_at "a"
     have fin := fun e3 ok3 h3 => hK2 .next _ ⟨_, .refl _, fitK_next (F := F) (D := D) (L := L) (p := p) (τ := τ'') hex2 hE3 hsu2 hsu3 e3 ok3 h3 (some (.int (k : Nat)))⟩
     have quiet := fun h => fin [] (by rw [append_nil]; exact ok2) (by rw [append_nil]; exact h); rw [append_nil] at quiet; refine exs_cons (ex_if ?_); iterate 5 walk_at "e"
     refine bin_pow ?_ (by decide) (by decide) (by decide); refine cmp_lt ⟨_, rfl, ?_⟩; by_cases hsm : rowAt rule a.2 k < 512 ^ 3
     case neg =>
       refine if_f (by simpa using hsm) ?_; have e1 : evR pre.length rule a.2 k = [] := by unfold evR; rw [if_neg hsm]
       have e2 : suR rule a.2 k = [] := by unfold suR; rw [if_neg (fun h => hsm h.1)]
       rw [e1, append_nil] at quiet; exact exs_nil (exs_nil (quiet (by rw [e2]; intro q hq; cases hq)))
     refine if_t (by simpa using hsm) ?_; walk_at "g"; walk_at "e"; refine ev_mcall ?_ rfl rfl ⟨_, _, rfl⟩; walk_at "e"; refine ⟨_, _, meth_dict (.led (by walk_at "m")) PySem.F.slot_dict_get PySem.F.type_dict_get, .builtin _, ?_⟩; iterate 3 walk_at "e"
     refine ev_list (args_nil ⟨zero_le _, ?_⟩); walk_at "e"; refine kw_nil ?_; refine cv_dict_get (.led (by walk_at "m")) ?_; rw [fit_getD]; have hil := fitAll_item_len E2 (rowAt rule a.2 k); refine ev_list (args_cons ?_ rfl); iterate 4 walk_at "e"
     refine bin_mul ?_ (.inl (by decide)); walk_at "e"; refine bin_add ?_; refine args_nil ⟨szle rfl, ?_⟩; refine bin_add_list .frozen .frozen (by rw [length_map, length_singleton, sizeLine_eq]; lia) ?_; refine as_sub ?_; iterate 2 walk_at "e"
     refine si_dict (by walk_at "m") (szm (le_trans (fitAll_len E2) (le_trans hE2l (by decide)))) ?_; rw [fit_put _ _ _ _ _ hsm]; refine exs_cons (ex_if ?_); iterate 5 walk_at "e"
     refine bin_add ?_; iterate 2 walk_at "e"
     refine ⟨.inl rfl, .builtin _, ?_⟩; iterate 3 walk_at "e"
     refine kw_nil ?_; refine cv_len_tuple (szm (le_trans hrl8 (by decide))) ?_; rw [length_map]; refine cmp_lt ⟨_, rfl, ?_⟩; by_cases hk1 : k + 1 < rule.length
     case neg =>
       refine if_f (by simp only [decide_eq_true_eq]; lia) (if_f (by decide) ?_); exact exs_nil (exs_nil (exs_nil (quiet (by unfold suR; rw [if_neg fun h => hk1 h.2.1]; intro q hq; cases hq))))
     refine if_t (by simp only [decide_eq_true_eq]; lia) ?_; iterate 7 walk_at "e"
     refine bin_add ?_; refine st_tupN (k + 1) hk9 (getD_get _ hk1) (fun _ _ => rfl) ?_; walk_at "e"; refine cmp_gt ⟨_, rfl, ?_⟩; by_cases hk2 : 255 < rule.getD (k + 1) 0
     case neg =>
       refine if_f (by simpa using hk2) (if_f (by decide) ?_); exact exs_nil (exs_nil (exs_nil (quiet (by unfold suR; rw [if_neg fun h => hk2 h.2.2]; intro q hq; cases hq))))
     refine if_t (by simpa using hk2) ?_; have e2 : suR rule a.2 k = [(rule.getD (k + 1) 0, rowAt rule a.2 k)] := by unfold suR; rw [if_pos ⟨hsm, hk1, hk2⟩]
     have hnew : (rule.getD (k + 1) 0, rowAt rule a.2 k) ∈ susOf rs a := by
       refine List.mem_flatMap.mpr ⟨rule, hrm, ?_⟩; unfold susRule; rw [if_pos hha]; exact List.mem_flatMap.mpr ⟨k, List.mem_range.mpr hkl, by rw [e2]; exact mem_cons_self⟩
     iterate 2 walk_at "e"
     refine ev_tuple ?_; iterate 6 walk_at "e"
     refine bin_add ?_; refine st_tupN (k + 1) hk9 (getD_get _ hk1) (fun _ _ => rfl) ?_; iterate 3 walk_at "e"
     refine ⟨szle rfl, ?_⟩; walk_at "e"; have hmp : As2.map pA = (As2.map fun q => [q.1, q.2]).map tA := by rw [map_map]; rfl
     refine cmp_notIn_tuples (l := As2.map fun q => [q.1, q.2]) (m := [rule.getD (k + 1) 0, rowAt rule a.2 k]) hA' (by rw [<- hmp]; exact .led (by walk_at "m")) ⟨_, rfl, ?_⟩; by_cases hin : (rule.getD (k + 1) 0, rowAt rule a.2 k) ∈ As2
     . refine if_f (by simp only [decide_eq_true_eq]; exact fun h => h (mem_pairs.mpr hin)) (if_f (by decide) ?_); exact exs_nil (exs_nil (exs_nil (quiet (by rw [e2]; intro q hq; rw [List.mem_singleton.mp hq]; exact hin))))
     . refine if_t (by simp only [decide_eq_true_eq]; exact fun h => hin (mem_pairs.mp h)) ?_; refine it_and_nil (if_t rfl ?_); refine exs_cons (ex_expr ?_ hE rfl); refine ev_mcall ?_ rfl rfl ⟨_, _, rfl⟩; walk_at "e"; refine ⟨_, _, meth_list (by walk_at "m") PySem.F.slot_list_append PySem.F.type_list_append, .builtin _, ?_⟩; walk_at "e"; refine ev_tuple ?_; iterate 6 walk_at "e"
       refine bin_add ?_; refine st_tupN (k + 1) hk9 (getD_get _ hk1) (fun _ _ => rfl) ?_; iterate 3 walk_at "e"
       refine ⟨szle rfl, ?_⟩; walk_at "e"; refine kw_nil ?_; refine cv_append (by walk_at "m") hzA ⟨rfl, ?_⟩; have hmq : As2.map pA ++ [AV.tuple [.int (rule.getD (k + 1) 0), .int (rowAt rule a.2 k)]] = (As2 ++ [(rule.getD (k + 1) 0, rowAt rule a.2 k)]).map pA := by rw [map_append]; rfl
       rw [hmq]; exact exs_nil (exs_nil (exs_nil (fin [(rule.getD (k + 1) 0, rowAt rule a.2 k)] (ok2.add hin (hUs _ (ok.sub _ haA) _ hnew) (.step (ok.ok _ haA) hnew)) (by rw [e2]; exact fun q hq => mem_append_right _ hq))))
   . intro σ₁ h; replace h := h.resolve_right id; obtain ⟨As2, ex2, E2, row, p7, hex2, hE3, hrow, ok2, hsu2, hsu3⟩ := h; have hev := ruleM_ev pre.length rule a; rw [hev.1] at hE3; rw [hev.2] at hsu3; refine exs_nil (hK1 _ _ ⟨_, .refl _, .mk As2 ex2 E2 _ _ _ _ hex2 (by rw [hE3, hE2, evsFrom_snoc, zero_add, append_assoc]) ok2 fun q hq => ?_⟩); rw [susOf_snoc] at hq; rcases List.mem_append.mp hq with h | h
     . exact hsu2 q h
     . exact hsu3 q h
 . intro σ₁ h; replace h := h.resolve_right id; obtain ⟨As1, ex, E1, p3, p4, p5, p6, hex, hE2, ok1, hsu1⟩ := h; refine exs_cons (ex_aug_name ?_); refine load_loc hE (by walk_at "m") (by walk_at "m") (by walk_at "m") ?_; walk_at "e"; refine inpl_add ?_; refine stl_loc (by assumption) (by walk_at "m") (by walk_at "m") (by walk_at "m") ?_; have htk := take_snoc (ex := ex) ha; have hl1 := ok1.len; have hA1l : As1.length = As.length + ex.length := by rw [hex, length_append]
   rw [<- hex] at htk; refine exs_nil (hK _ _ ⟨_, sub_lt_sub_left (lt_of_lt_of_le hpl (le_trans (by rw [hA1l]; exact le_add_right _ _) hl1)) (lt_succ_self p), .mk (p + 1) As1 E1 _ _ _ _ _ _ (lt_of_lt_of_le hpl (by rw [hA1l]; exact le_add_right _ _)) ok1 (by rw [hex]; exact mem_append_left _ h0) ?_ fun b hb q hq => ?_⟩)
   . rw [htk, flatMap_append, <- hE1, hE2, flatMap_cons, flatMap_nil, append_nil]
   . rw [htk] at hb; rcases List.mem_append.mp hb with h | h
     . rw [hex]; exact mem_append_left _ (hcl b h q hq)
     . rw [List.mem_singleton.mp h] at hq; exact hsu1 q hq
end
end
section
set_option genInjectivity false in
set_option genSizeOf false in
structure Tb {C : Cx} (X : Wd C) where
 tM : Addr
 tL : Addr
 cM : CodeTab C X.mach.code tM
 cL : CodeTab C X.law.code tL
section
variable {C : Cx} {A : Around} {σ σ' : St} (X : Wd C) (I : Ki C)
theorem preSum_list : ∀ (xs : List Int) (xs' : Array (Int × Tok)), xs'.toList.map (·.1) = xs -> preSum (numAt xs') xs'.size = xs.sum := by
 intro xs xs' h; rw [preSum_eq, take_of_length_le (by simp)]; rw [<- h]
theorem cv_sum (hA : A.handled = none) {d : AV} {l : List Int} (hd : RdL σ d (l.map AV.int)) (hQ : Q (.int l.sum) σ) : CallV C A (.val (.builtin "sum")) [d] [] σ Q := by
 refine CallV.v1 fun P s v0 S r => ?_; obtain ⟨a, vs, rfl, g1, g2⟩ := hd.isList S r
 have hx : ∃ xs : List (Int × Tok), vs = xs.map (fun p => Value.int p.1 p.2) /\ xs.map (·.1) = l := by
   clear hd r g1 hQ
   revert vs
   induction l with
   | nil => intro vs g2; cases g2; exact ⟨[], rfl, rfl⟩
   | cons i l ih =>
     intro vs g2
     cases g2 with
     | cons h1 h2 =>
       cases h1 with
       | int _ t =>
         obtain ⟨xs, e1, e2⟩ := ih _ h2; exact ⟨(i, t) :: xs, by rw [e1]; rfl, by rw [map_cons, e2]⟩
 obtain ⟨xs, rfl, hl⟩ := hx; refine sum_intListG (xs := xs.toArray) hA (by simpa [intItems] using g1) fun h' tk t' hk => ?_; rw [preSum_list l _ (by simpa using hl)]; exact Post.mk (S.heap tk hk) (.int _ _) hQ
noncomputable def kvOf (w : Int) (rows : List (Int × Int × Int)) (new : Int × Int × Int) (i : Nat) : Int := cmpOf w ((rows.getD i (0, 0, 0)).1, (rows.getD i (0, 0, 0)).2.1) (new.1, new.2.1)
include X in
theorem lam_cmp {fd : FuncData} {params : Arguments} {body : Expr} {sc : Scope} {q : Str} {c1 c2 : Addr} {w : Int} {new : Int × Int × Int} {rows : List (Int × Int × Int)} {nm : Str}
   (hl : LamFd fd params body sc q [("comp", c1), (nm, c2)]) (cs : LamScope sc) (hb : ∀ fd : FuncData, fd.params = params -> fd.defaults = .none -> fd.kwdefaults = .none -> ∀ v, bindArgs fd ⟨[v], []⟩ = pure [(("row" : Str), v)]) (hr : (("row" : Str), NameKind.local) ∈ sc.names)
   (m1 : (c1, .cell (some (compA I w))) ∈ σ)
   (hev : ∀ {L : Addr} {A' : Around} {env : Env} {τ : St} {Q : AV -> St -> Prop} (row : Int × Int × Int), AOk 1 A' -> EnvIs env L sc.names [("comp", c1), (nm, c2)] -> (∀ q ∈ σ, q ∈ τ) -> Q (.int (cmpOf w (row.1, row.2.1) (new.1, new.2.1))) ((L, .ns [("row", some (rowA row))]) :: τ) -> Ev C A' (eval body env) ((L, .ns [("row", some (rowA row))]) :: τ) Q) :
   KeyOk C 2 σ (.fn fd) (rows.map rowA) (kvOf w rows new) := by
 refine ⟨⟨_, rfl⟩, fun A' τ Q i d hA hτ hd hQ => ?_⟩; rw [getElem?_map] at hd; obtain ⟨row, e1, rfl⟩ := Option.map_eq_some_iff.mp hd; have e2 : rows.getD i (0, 0, 0) = row := by rw [getD_eq_getElem?_getD, e1]; rfl
 unfold kvOf at hQ; rw [e2] at hQ; refine callV_lam (m0 := [("row", some (rowA row))]) X.G hA hl cs hb hr (show (["row"] : List Str).Nodup by decide) (fun y av h => by rw [mem_singleton] at h; cases h; exact ⟨rfl, rfl⟩) ?_; intro L A'' env hA'' hE; exact hev row hA'' hE hτ ⟨_, sublist_cons_self _ _, hQ⟩
end
end
section
noncomputable def moved (rs : List (List Int)) (s : List Nat) (X : Int) : List Nat := (s.filter fun n => decide (nextSym rs n = [X])).map (· + 1)
noncomputable def maskN (s : List Nat) : Nat := (s.map fun n => 2 ^ n).sum
noncomputable def mask (s : List Nat) : Int := (s.map fun n => (2 : Int) ^ n).sum
theorem mask_nat (s : List Nat) : mask s = (maskN s : Int) := by
 unfold mask maskN
 induction s with
 | nil => rfl
 | cons n s ih => simp only [map_cons, sum_cons]; rw [ih]; push_cast; rfl
theorem maskN_lt {m : Nat} : ∀ {s : List Nat}, s.Pairwise (· < ·) -> (∀ n ∈ s, n < m) -> maskN s < 2 ^ m := by
 intro s
 induction h : s.length generalizing s m with
 | zero => intro _ _; obtain rfl := List.length_eq_zero_iff.mp h; exact Nat.two_pow_pos m
 | succ k ih =>
   intro hs hm; rcases eq_nil_or_concat s with rfl | ⟨t, x, rfl⟩
   . cases h
   rw [concat_eq_append] at *; rw [List.pairwise_append] at hs; have h1 := ih (s := t) (m := x) (by simpa using h) hs.1 fun n hn => hs.2.2 n hn x mem_cons_self; have hx := hm x (by simp); have h2 : maskN (t ++ [x]) = maskN t + 2 ^ x := by unfold maskN; simp
   have h3 : 2 ^ (x + 1) <= 2 ^ m := Nat.pow_le_pow_right (by decide) hx; rw [Nat.pow_succ] at h3; rw [h2]; exact lt_of_lt_of_le (Nat.add_lt_add_right h1 _) (by rw [<- mul_two]; exact h3)
theorem maskN_inj : ∀ {s t : List Nat}, s.Pairwise (· < ·) -> t.Pairwise (· < ·) -> maskN s = maskN t -> s = t := by
 intro s
 induction h : s.length generalizing s with
 | zero =>
   intro t hs ht e; obtain rfl := List.length_eq_zero_iff.mp h
   cases t with
   | nil => rfl
   | cons x t =>
     have : maskN (x :: t) = 2 ^ x + maskN t := by unfold maskN; simp
     exact absurd (e.trans this) (ne_of_lt (lt_of_lt_of_le (Nat.two_pow_pos x) (le_add_right _ _)))
 | succ k ih =>
   intro t hs ht e; rcases eq_nil_or_concat s with rfl | ⟨s', x, rfl⟩
   . cases h
   rcases eq_nil_or_concat t with rfl | ⟨t', y, rfl⟩
   . rw [concat_eq_append] at e; have : maskN (s' ++ [x]) = maskN s' + 2 ^ x := by unfold maskN; simp
     exact absurd (this.symm.trans e) (ne_of_gt (lt_of_lt_of_le (Nat.two_pow_pos x) (le_add_left _ _)))
   rw [concat_eq_append] at *; rw [concat_eq_append] at *; rw [List.pairwise_append] at hs ht; have e1 : maskN (s' ++ [x]) = maskN s' + 2 ^ x := by unfold maskN; simp
   have e2 : maskN (t' ++ [y]) = maskN t' + 2 ^ y := by unfold maskN; simp
   have l1 := maskN_lt hs.1 (m := x) fun n hn => hs.2.2 n hn x mem_cons_self; have l2 := maskN_lt ht.1 (m := y) fun n hn => ht.2.2 n hn y mem_cons_self
   have hxy : x = y := by
     rcases Nat.lt_trichotomy x y with hl | hl | hl
     . have := Nat.pow_le_pow_right (show 0 < 2 by decide) hl; rw [Nat.pow_succ, mul_two] at this; exact absurd (e1.symm.trans (e.trans e2)) (ne_of_lt (lt_of_lt_of_le (Nat.add_lt_add_right l1 _) (le_trans this (le_add_left _ _))))
     . exact hl
     . have := Nat.pow_le_pow_right (show 0 < 2 by decide) hl; rw [Nat.pow_succ, mul_two] at this; exact absurd (e1.symm.trans (e.trans e2)) (ne_of_gt (lt_of_lt_of_le (Nat.add_lt_add_right l2 _) (le_trans this (le_add_left _ _))))
   subst hxy; rw [ih (s := s') (by simpa using h) hs.1 ht.1 (Nat.add_right_cancel (e1.symm.trans (e.trans e2)))]
theorem mask_inj {s t : List Nat} (hs : s.Pairwise (· < ·)) (ht : t.Pairwise (· < ·)) (e : mask s = mask t) : s = t := by
 rw [mask_nat, mask_nat] at e; exact maskN_inj hs ht (by exact_mod_cast e)
noncomputable abbrev Row := Int × Int × Int
noncomputable def rowOf (i : Nat) (s : List Nat) : Row := (s.length, mask s, i)
noncomputable abbrev key2 (r : Row) : Int × Int := (r.1, r.2.1)
inductive StateR (rs : List (List Int)) (syms : List Int) : List Nat -> Prop
 | start {s : List Nat} : Closed rs [0] s -> StateR rs syms s
 | step {s s' : List Nat} {X : Int} : StateR rs syms s -> X ∈ syms -> moved rs s X ≠ [] -> Closed rs (moved rs s X) s' -> StateR rs syms s'
structure MachRes (rs : List (List Int)) (syms : List Int) (w : Int) (found : List (List Nat)) (moves : List (Int × Int)) (shelf : List Row) : Prop where
 nd : found.Nodup
 start : ∃ s, found[0]? = some s /\ Closed rs [0] s
 ok : ∀ s ∈ found, StateR rs syms s
 mnd : (moves.map (·.1)).Nodup
 mv : ∀ (i : Nat) s X, found[i]? = some s -> X ∈ syms -> (moved rs s X = [] -> gGet moves (512 * i + X) = none) /\ (moved rs s X ≠ [] -> ∃ (j : Nat) (s' : List Nat), gGet moves (512 * i + X) = some (j : Int) /\ found[j]? = some s' /\ Closed rs (moved rs s X) s')
 mkey : ∀ k ∈ moves.map (·.1), ∃ (i : Nat) (X : Int), i < found.length /\ X ∈ syms /\ k = 512 * i + X
 perm : shelf.Perm (found.mapIdx rowOf)
 sorted : shelf.Pairwise fun a b => cmpOf w (key2 a) (key2 b) < 0
noncomputable def lx (p q : Int × Int) : Prop := p.1 < q.1 \/ p.1 = q.1 /\ p.2 < q.2
theorem lx_trans {p q r : Int × Int} (h : lx p q) (h' : lx q r) : lx p r := by
 rcases h with h | ⟨e, h⟩
 . exact .inl (h'.elim (Int.lt_trans h) fun x => x.1 ▸ h)
 . exact h'.imp (fun x => e ▸ x) fun x => ⟨e.trans x.1, Int.lt_trans h x.2⟩
theorem lx_asymm {p q : Int × Int} (h : lx p q) (h' : lx q p) : False := (lx_trans h h').elim (Int.lt_irrefl _) fun x => Int.lt_irrefl _ x.2
theorem lx_total {p q : Int × Int} (h : ¬ lx p q) (n : p ≠ q) : lx q p := by
 rcases Int.lt_trichotomy p.1 q.1 with h1 | h1 | h1
 . exact absurd (.inl h1) h
 . rcases Int.lt_trichotomy p.2 q.2 with h2 | h2 | h2
   . exact absurd (.inr ⟨h1, h2⟩) h
   . exact absurd (Prod.ext h1 h2) n
   . exact .inr ⟨h1.symm, h2⟩
 . exact .inl h1
noncomputable def kx (w : Int) (a : Int × Int) : Int × Int := if 0 < w then (a.1, -a.2) else (-a.1, a.2)
inductive CmpIs (w : Int) (a b : Int × Int) : Int -> Prop
 | lt1 (h : a.1 < b.1) : CmpIs w a b (-w)
 | gt1 (h : b.1 < a.1) : CmpIs w a b w
 | lt2 (e : a.1 = b.1) (h : a.2 < b.2) : CmpIs w a b w
 | gt2 (e : a.1 = b.1) (h : b.2 < a.2) : CmpIs w a b (-w)
 | eq (e : a = b) : CmpIs w a b 0
theorem cmp_is (w : Int) (a b : Int × Int) : CmpIs w a b (cmpOf w a b) := by
 unfold cmpOf; split
 . next h => exact .lt1 h
 . next h => split
             . next h' => exact .gt1 h'
             . next h' =>
               have e := Int.le_antisymm (Int.not_lt.mp h') (Int.not_lt.mp h); split
               . next h2 => exact .lt2 e h2
               . next h2 => split
                            . next h3 => exact .gt2 e h3
                            . next h3 => exact .eq (Prod.ext e (Int.le_antisymm (Int.not_lt.mp h3) (Int.not_lt.mp h2)))
theorem cmp_lx {w : Int} (hw : w ≠ 0) (a b : Int × Int) : cmpOf w a b < 0 ↔ lx (kx w a) (kx w b) := by
 have H := cmp_is w a b; generalize cmpOf w a b = z at H ⊢; unfold kx; by_cases hp : 0 < w
 . rw [if_pos hp, if_pos hp]; have n : ¬ w < 0 := Int.lt_asymm hp
   cases H with
   | lt1 h => exact iff_of_true (Int.neg_neg_of_pos hp) (.inl h)
   | gt1 h => exact iff_of_false n fun x => lx_asymm x (.inl h)
   | lt2 e h => exact iff_of_false n fun x => lx_asymm x (.inr ⟨e.symm, neg_lt_neg h⟩)
   | gt2 e h => exact iff_of_true (Int.neg_neg_of_pos hp) (.inr ⟨e, neg_lt_neg h⟩)
   | eq e => exact iff_of_false (Int.lt_irrefl _) fun x => lx_asymm (e ▸ x) (e ▸ x)
 . rw [if_neg hp, if_neg hp]; have q : w < 0 := Int.lt_iff_le_and_ne.mpr ⟨Int.not_lt.mp hp, hw⟩; have n : ¬ -w < 0 := Int.lt_asymm (Int.neg_pos_of_neg q)
   cases H with
   | lt1 h => exact iff_of_false n fun x => lx_asymm x (.inl (neg_lt_neg h))
   | gt1 h => exact iff_of_true q (.inl (neg_lt_neg h))
   | lt2 e h => exact iff_of_true q (.inr ⟨congrArg Neg.neg e, h⟩)
   | gt2 e h => exact iff_of_false n fun x => lx_asymm x (.inr ⟨congrArg Neg.neg e.symm, h⟩)
   | eq e => exact iff_of_false (Int.lt_irrefl _) fun x => lx_asymm (e ▸ x) (e ▸ x)
theorem cmp_eq_zero {w : Int} (hw : w ≠ 0) (a b : Int × Int) : cmpOf w a b = 0 ↔ a = b := by
 have H := cmp_is w a b; generalize cmpOf w a b = z at H ⊢
 cases H with
 | lt1 h => exact iff_of_false (Int.neg_ne_zero.mpr hw) fun e => Int.ne_of_lt h (congrArg _ e)
 | gt1 h => exact iff_of_false hw fun e => Int.ne_of_gt h (congrArg _ e)
 | lt2 _ h => exact iff_of_false hw fun e => Int.ne_of_lt h (congrArg _ e)
 | gt2 _ h => exact iff_of_false (Int.neg_ne_zero.mpr hw) fun e => Int.ne_of_gt h (congrArg _ e)
 | eq e => exact iff_of_true rfl e
theorem cmp_trans {w : Int} (hw : w ≠ 0) {a b c : Int × Int} (h1 : cmpOf w a b < 0) (h2 : cmpOf w b c < 0) : cmpOf w a c < 0 :=
 (cmp_lx hw a c).mpr (lx_trans ((cmp_lx hw a b).mp h1) ((cmp_lx hw b c).mp h2))
theorem cmp_anti {w : Int} (hw : w ≠ 0) {a b : Int × Int} (h : cmpOf w a b < 0) : ¬ cmpOf w b a < 0 :=
 fun h2 => lx_asymm ((cmp_lx hw a b).mp h) ((cmp_lx hw b a).mp h2)
theorem kx_inj {w : Int} {a b : Int × Int} (h : kx w a = kx w b) : a = b := by
 unfold kx at h; split at h
 . exact Prod.ext (Prod.mk.inj h).1 (Int.neg_inj.mp (Prod.mk.inj h).2)
 . exact Prod.ext (Int.neg_inj.mp (Prod.mk.inj h).1) (Prod.mk.inj h).2
theorem cmp_total {w : Int} (hw : w ≠ 0) {a b : Int × Int} (h1 : ¬ cmpOf w a b < 0) (h2 : a ≠ b) : cmpOf w b a < 0 :=
 (cmp_lx hw b a).mpr (lx_total (fun x => h1 ((cmp_lx hw a b).mpr x)) fun e => h2 (kx_inj e))
theorem moved_mem {rs : List (List Int)} {s : List Nat} {X : Int} {m : Nat} : m ∈ moved rs s X ↔ ∃ n ∈ s, nextSym rs n = [X] /\ m = n + 1 := by
 unfold moved; simp only [mem_map, mem_filter, decide_eq_true_eq]; constructor
 . rintro ⟨n, ⟨h1, h2⟩, rfl⟩; exact ⟨n, h1, h2, rfl⟩
 . rintro ⟨n, h1, h2, rfl⟩; exact ⟨n, ⟨h1, h2⟩, rfl⟩
theorem closed_uniq {rs : List (List Int)} {w0 f g : List Nat} (h1 : Closed rs w0 f) (h2 : Closed rs w0 g) : f = g := by
 have : ∀ {f g : List Nat}, f.Pairwise (· < ·) -> g.Pairwise (· < ·) -> (∀ n, n ∈ f ↔ n ∈ g) -> f = g := by
   intro f
   induction f with
   | nil =>
     intro g _ _ h
     cases g with
     | nil => rfl
     | cons x g => exact absurd ((h x).mpr mem_cons_self) (by simp)
   | cons x f ih =>
     intro g hf hg h
     cases g with
     | nil => exact absurd ((h x).mp mem_cons_self) (by simp)
     | cons y g =>
       rw [pairwise_cons] at hf hg
       have hxy : x = y := by
         rcases List.mem_cons.mp ((h x).mp mem_cons_self) with e | e
         . exact e
         . rcases List.mem_cons.mp ((h y).mpr mem_cons_self) with e' | e'
           . exact e'.symm
           . exact absurd (hf.1 y e') (Nat.lt_asymm (hg.1 x e))
       subst hxy; rw [ih hf.2 hg.2 fun n => ?_]; constructor
       . intro hn; rcases List.mem_cons.mp ((h n).mp (mem_cons_of_mem _ hn)) with e | e
         . exact absurd e (ne_of_gt (hf.1 n hn))
         . exact e
       . intro hn; rcases List.mem_cons.mp ((h n).mpr (mem_cons_of_mem _ hn)) with e | e
         . exact absurd e (ne_of_gt (hg.1 n hn))
         . exact e
 exact this h1.sorted h2.sorted fun n => (h1.mem n).trans (h2.mem n).symm
end
section
structure MInv (rs : List (List Int)) (syms : List Int) (w : Int) (done : Nat -> Int -> Prop) (found : List (List Nat)) (moves : List (Int × Int)) (shelf : List Row) : Prop where
 nd : found.Nodup
 start : ∃ s, found[0]? = some s /\ Closed rs [0] s
 ok : ∀ s ∈ found, StateR rs syms s
 mnd : (moves.map (·.1)).Nodup
 mv : ∀ (i : Nat) s X, found[i]? = some s -> X ∈ syms -> done i X -> (moved rs s X = [] -> gGet moves (512 * i + X) = none) /\ (moved rs s X ≠ [] -> ∃ (j : Nat) (s' : List Nat), gGet moves (512 * i + X) = some (j : Int) /\ found[j]? = some s' /\ Closed rs (moved rs s X) s')
 mkey : ∀ k ∈ moves.map (·.1), ∃ (i : Nat) (X : Int), i < found.length /\ X ∈ syms /\ done i X /\ k = 512 * i + X
 perm : shelf.Perm (found.mapIdx rowOf)
 sorted : shelf.Pairwise fun a b => cmpOf w (key2 a) (key2 b) < 0
theorem StateR.sorted {rs : List (List Int)} {syms : List Int} {s : List Nat} (h : StateR rs syms s) : s.Pairwise (· < ·) := by
 cases h with
 | start h => exact h.sorted
 | step _ _ _ h => exact h.sorted
section
variable {rs : List (List Int)} {syms : List Int} {w : Int} {done : Nat -> Int -> Prop} {found : List (List Nat)} {moves : List (Int × Int)} {shelf : List Row}
theorem mem_mapIdx_row {r : Row} : r ∈ found.mapIdx rowOf ↔ ∃ j t, found[j]? = some t /\ r = rowOf j t := by
 rw [List.mem_mapIdx]; constructor
 . rintro ⟨j, hj, e⟩; exact ⟨j, found[j], getElem?_eq_getElem hj, e.symm⟩
 . rintro ⟨j, t, h, e⟩; obtain ⟨hj, e'⟩ := List.getElem?_eq_some_iff.mp h; exact ⟨j, hj, by rw [e', e]⟩
theorem shelf_cut (hw : w ≠ 0) (hs : shelf.Pairwise fun a b => cmpOf w (key2 a) (key2 b) < 0) (new : Row) : ∃ r, Cut (fun i => decide (kvOf w shelf new i < 0)) shelf.length r :=
 cut_of (q := fun a : Row => decide (cmpOf w (key2 a) (key2 new) < 0)) (d := (0, 0, 0)) (hs.imp fun h q => decide_eq_true (cmp_trans hw h (of_decide_eq_true q)))
theorem MInv.hit (M : MInv rs syms w done found moves shelf) (hw : w ≠ 0) {s' : List Nat} (hs' : s'.Pairwise (· < ·)) {r k : Nat} (hr : r < shelf.length) (hc : cmpOf w (key2 shelf[r]) (key2 (rowOf k s')) = 0) : ∃ j : Nat, shelf[r].2.2 = (j : Int) /\ found[j]? = some s' := by
 have hm : shelf[r] ∈ found.mapIdx rowOf := M.perm.subset (getElem_mem hr); obtain ⟨j, t, h1, h2⟩ := mem_mapIdx_row.mp hm; have he := (cmp_eq_zero hw _ _).mp hc; rw [h2] at he; have hmk : mask t = mask s' := congrArg Prod.snd he; have ht := (M.ok t (mem_of_getElem? h1)).sorted; exact ⟨j, by rw [h2]; rfl, by rw [h1, mask_inj ht hs' hmk]⟩
theorem MInv.miss (M : MInv rs syms w done found moves shelf) (hw : w ≠ 0) {s' : List Nat} {r k : Nat} (hcut : Cut (fun i => decide (kvOf w shelf (rowOf k s') i < 0)) shelf.length r) (hx : ∀ h : r < shelf.length, cmpOf w (key2 shelf[r]) (key2 (rowOf k s')) ≠ 0) : s' ∉ found := by
 intro hin; obtain ⟨j, hj, e⟩ := List.getElem_of_mem hin; have hm : rowOf j s' ∈ shelf := M.perm.symm.subset (mem_mapIdx_row.mpr ⟨j, s', by rw [getElem?_eq_getElem hj, e], rfl⟩); have hz : cmpOf w (key2 (rowOf j s')) (key2 (rowOf k s')) = 0 := (cmp_eq_zero hw _ _).mpr rfl; rw [<- take_append_drop r shelf] at hm; rcases List.mem_append.mp hm with h | h
 . exact Int.ne_of_lt (of_decide_eq_true (Cut.lo (q := fun a : Row => decide (cmpOf w (key2 a) (key2 (rowOf k s')) < 0)) hcut h)) hz
 . have hr : r < shelf.length := Nat.lt_of_not_le fun q => by rw [List.drop_eq_nil_of_le q] at h; cases h
   have hp := M.sorted.sublist (drop_sublist r shelf); have h1 := fun b hb => of_decide_eq_false (Cut.hi (q := fun a : Row => decide (cmpOf w (key2 a) (key2 (rowOf k s')) < 0)) hcut (a := b) hb); rw [drop_eq_getElem_cons hr] at h hp h1; rcases List.mem_cons.mp h with e | h
   . exact hx hr (e ▸ hz)
   . exact h1 _ mem_cons_self ((List.pairwise_cons.mp hp).1 (rowOf j s') h)
theorem MInv.weak (M : MInv rs syms w done found moves shelf) {done' : Nat -> Int -> Prop} (h : ∀ i X, done i X -> done' i X) (hd : ∀ (i : Nat) s X, found[i]? = some s -> X ∈ syms -> done' i X -> ¬ done i X -> moved rs s X = [] /\ gGet moves (512 * i + X) = none) : MInv rs syms w done' found moves shelf :=
 ⟨M.nd, M.start, M.ok, M.mnd, fun i s X h1 h2 h3 => by
   by_cases q : done i X
   . exact M.mv i s X h1 h2 q
   . obtain ⟨q1, q2⟩ := hd i s X h1 h2 h3 q; exact ⟨fun _ => q2, fun h => absurd q1 h⟩, fun k hk => let ⟨i, X, a, b, c, d⟩ := M.mkey k hk; ⟨i, X, a, b, h _ _ c, d⟩, M.perm, M.sorted⟩
theorem key_uniq {i j : Nat} {X Y : Int} (hX : 0 <= X /\ X < 512) (hY : 0 <= Y /\ Y < 512) (h : 512 * (i : Int) + X = 512 * j + Y) : i = j /\ X = Y := (rad hX hY h).imp Int.ofNat.inj id
theorem MInv.fresh (M : MInv rs syms w done found moves shelf) (hsy : ∀ X ∈ syms, 0 <= X /\ X < 512) {p : Nat} {X : Int} (hX : X ∈ syms) (hn : ¬ done p X) : gGet moves (512 * p + X) = none := by
 rw [gGet_none]; intro hk; obtain ⟨i, Y, h1, h2, h3, h4⟩ := M.mkey _ hk; obtain ⟨rfl, rfl⟩ := key_uniq (hsy _ hX) (hsy _ h2) h4; exact hn h3
theorem iPut_keys {l : List (Int × Int)} {k v : Int} (h : k ∉ l.map (·.1)) : (gPut l k v).map (·.1) = l.map (·.1) ++ [k] := by rw [gPut_keys, if_neg h]
theorem get_append_of {found : List (List Nat)} {ex : List (List Nat)} {i : Nat} {s : List Nat} (h : found[i]? = some s) : (found ++ ex)[i]? = some s := by
 obtain ⟨hi, _⟩ := List.getElem?_eq_some_iff.mp h; rw [getElem?_append_left hi]; exact h
theorem get_append_inv {found : List (List Nat)} {x : List Nat} {i : Nat} {s : List Nat} (h : (found ++ [x])[i]? = some s) : found[i]? = some s \/ (i = found.length /\ s = x) := by
 rcases lt_or_ge i found.length with q | q
 . rw [getElem?_append_left q] at h; exact .inl h
 . rw [getElem?_append_right q] at h; have hi := (List.getElem?_eq_some_iff.mp h).1; simp at hi; have : i - found.length = 0 := by omega
   rw [this] at h; simp at h; exact .inr ⟨by lia, h.symm⟩
theorem MInv.step (M : MInv rs syms w done found moves shelf) (hsy : ∀ X ∈ syms, 0 <= X /\ X < 512) {done' : Nat -> Int -> Prop} {p : Nat} {s s' : List Nat} {X : Int} {ex : List (List Nat)} {shelf' : List Row} {j : Nat} (hp : found[p]? = some s) (hX : X ∈ syms) (hn : ¬ done p X)
   (hd : ∀ i Y, done' i Y ↔ done i Y \/ (i = p /\ Y = X)) (hlt : ∀ i Y, done i Y -> i < found.length) (hm : moved rs s X ≠ []) (hc : Closed rs (moved rs s X) s') (hnd : (found ++ ex).Nodup) (hex : ∀ t ∈ ex, t = s') (hj : (found ++ ex)[j]? = some s')
   (hperm : shelf'.Perm ((found ++ ex).mapIdx rowOf)) (hsorted : shelf'.Pairwise fun a b => cmpOf w (key2 a) (key2 b) < 0) : MInv rs syms w done' (found ++ ex) (gPut moves (512 * p + X) j) shelf' := by
 have hf := M.fresh hsy hX hn; have hk := gGet_none.mp hf; refine ⟨hnd, ?_, ?_, ?_, ?_, ?_, hperm, hsorted⟩
 . obtain ⟨t, h1, h2⟩ := M.start; exact ⟨t, get_append_of h1, h2⟩
 . intro t ht; rcases List.mem_append.mp ht with h | h
   . exact M.ok t h
   . rw [hex t h]; exact .step (M.ok s (mem_of_getElem? hp)) hX hm hc
 . rw [iPut_keys hk, nodup_append]; exact ⟨M.mnd, by simp, fun x hx y hy e => by rw [List.mem_singleton.mp hy] at e; subst e; exact hk hx⟩
 . intro i t Y h1 h2 h3; rcases (hd i Y).mp h3 with h3 | ⟨rfl, rfl⟩
   . have hil := hlt i Y h3; rw [getElem?_append_left hil] at h1; obtain ⟨q1, q2⟩ := M.mv i t Y h1 h2 h3
     have hne : ¬ (512 * (p : Int) + X = 512 * i + Y) := fun e => by
       obtain ⟨rfl, rfl⟩ := key_uniq (hsy _ hX) (hsy _ h2) e; exact hn h3
     rw [gGet_put, if_neg hne]; exact ⟨q1, fun h => let ⟨a, b, c, d, e⟩ := q2 h; ⟨a, b, c, get_append_of d, e⟩⟩
   . have hpl := (List.getElem?_eq_some_iff.mp hp).1; rw [getElem?_append_left hpl, hp] at h1; cases h1; rw [gGet_put, if_pos rfl]; exact ⟨fun h => absurd h hm, fun _ => ⟨j, s', rfl, hj, hc⟩⟩
 . intro k hk'; rw [iPut_keys hk] at hk'; rcases List.mem_append.mp hk' with h | h
   . obtain ⟨i, Y, a, b, c, d⟩ := M.mkey k h; exact ⟨i, Y, by rw [length_append]; lia, b, (hd _ _).mpr (.inl c), d⟩
   . have hpl := (List.getElem?_eq_some_iff.mp hp).1; exact ⟨p, X, by rw [length_append]; lia, hX, (hd _ _).mpr (.inr ⟨rfl, rfl⟩), List.mem_singleton.mp h⟩
theorem mapIdx_snoc {x : List Nat} : (found ++ [x]).mapIdx rowOf = found.mapIdx rowOf ++ [rowOf found.length x] := by
 rw [List.mapIdx_append]; simp
theorem shelf_ins (M : MInv rs syms w done found moves shelf) (hw : w ≠ 0) {s' : List Nat} {r : Nat} (hcut : Cut (fun i => decide (kvOf w shelf (rowOf found.length s') i < 0)) shelf.length r) (hnew : ∀ h : r < shelf.length, cmpOf w (key2 shelf[r]) (key2 (rowOf found.length s')) ≠ 0) (hni : s' ∉ found) (hs' : s'.Pairwise (· < ·)) :
   (shelf.take r ++ rowOf found.length s' :: shelf.drop r).Perm ((found ++ [s']).mapIdx rowOf) /\ (shelf.take r ++ rowOf found.length s' :: shelf.drop r).Pairwise fun a b => cmpOf w (key2 a) (key2 b) < 0 := by
 constructor
 . rw [mapIdx_snoc]; have h1 : (shelf.take r ++ rowOf found.length s' :: shelf.drop r).Perm (rowOf found.length s' :: (shelf.take r ++ shelf.drop r)) := List.perm_middle; rw [take_append_drop] at h1; exact h1.trans ((M.perm.cons _).trans (List.perm_append_singleton _ _).symm)
 . refine ins_pairwise M.sorted (fun a ha => of_decide_eq_true (Cut.lo (q := fun a : Row => decide (cmpOf w (key2 a) (key2 (rowOf found.length s')) < 0)) hcut ha)) fun b hb => cmp_total hw (of_decide_eq_false (Cut.hi (q := fun a : Row => decide (cmpOf w (key2 a) (key2 (rowOf found.length s')) < 0)) hcut hb)) fun he => ?_; obtain ⟨j, t, h3, h4⟩ := mem_mapIdx_row.mp (M.perm.subset (mem_of_mem_drop hb)); rw [h4] at he; have := mask_inj (M.ok t (mem_of_getElem? h3)).sorted hs' (congrArg Prod.snd he); subst this; exact hni (mem_of_getElem? h3)
end
end
section
theorem next_some {rs : List (List Int)} {n : Nat} {X : Int} (h : nextSym rs n = [X]) : n / 8 < rs.length /\ 1 + n % 8 < (rs.getD (n / 8) []).length /\ (rs.getD (n / 8) []).getD (1 + n % 8) 0 = X := by
 unfold nextSym at h
 have h1 : n / 8 < rs.length := by
   rcases lt_or_ge (n / 8) rs.length with q | q
   . exact q
   . rw [getD_eq_getElem?_getD, List.getElem?_eq_none q] at h; simp at h
 have h2 : 1 + n % 8 < (rs.getD (n / 8) []).length := by
   rcases lt_or_ge (1 + n % 8) (rs.getD (n / 8) []).length with q | q
   . exact q
   . rw [drop_of_length_le q] at h; simp at h
 refine ⟨h1, h2, ?_⟩; rw [drop_eq_getElem_cons h2, List.take_succ_cons, List.take_zero] at h; rw [getD_eq_getElem?_getD, getElem?_eq_getElem h2]; injection h
theorem reach_lt {rs : List (List Int)} {w0 : List Nat} (hrs : ∀ r ∈ rs, r ≠ []) (hrl : ∀ r ∈ rs, r.length <= 8) (hw : ∀ x ∈ w0, x / 8 < rs.length) {n : Nat} (h : Reach rs w0 n) : n < 8 * rs.length := by
 have : n / 8 < rs.length := by
   cases h with
   | base h => exact hw _ h
   | step h1 h2 h3 h4 => have := (mem_addsFrom h4).2.2; rwa [zero_add] at this
 rw [Nat.mul_comm]; exact (Nat.div_lt_iff_lt_mul (by decide)).mp this
noncomputable abbrev stA (s : List Nat) : AV := .list (s.map nA)
section
variable {C : Cx} {A : Around} {σ σ' : St} (X : Wd C) (I : Ki C)
theorem Eb.pointP {t : Sem Bool} {Q : Bool -> St -> Prop} (p : Prop) (h : Eb C A t σ fun b σ' => σ' = σ /\ (b = true ↔ p)) (hq : ∀ b, (b = true ↔ p) -> Q b σ) : Eb C A t σ Q :=
 h.mono fun b _ ⟨e1, e2⟩ => by rw [e1]; exact hq b e2
inductive FrzQ3 (Q : AV -> St -> Prop) : AV -> St -> Prop
 | intro (a b c : Addr) (e1 e2 e3 : AEnt) (d1 d2 d3 : AV) (σ : St) (h1 : Frz e1 d1) (h2 : Frz e2 d2) (h3 : Frz e3 d3) (h4 : Q (.tuple [d1, d2, d3]) σ) : FrzQ3 Q (.tuple [.val (.ref a), .val (.ref b), .val (.ref c)]) ((c, e3) :: (b, e2) :: (a, e1) :: σ)
theorem VRs.vals3 {P : Pool} {a b c : Value} {vs : List Value} (h : VRs P vs [.val a, .val b, .val c]) : vs = [a, b, c] := by
 obtain ⟨_, _, _, e, r1, r2, r3⟩ := h.inv3; rw [e, r1.val_inv, r2.val_inv, r3.val_inv]
theorem callV_freeze3 {f : AV} {ds : List AV} {ks : List (Str × AV)} (h : CallV C A f ds ks σ (FrzQ3 Q)) : CallV C A f ds ks σ Q := by
 intro P s v vs kvs S r rs rk; refine wpAny_mono (h P s v vs kvs S r rs rk) (fun u s' h => ?_) fun _ _ x => x; obtain ⟨P', b', σ', l, S', r', h⟩ := h; obtain ⟨a, b, c, e1, e2, e3, d1, d2, d3, σ'', f1, f2, f3, hq⟩ := h; obtain ⟨P1, l1, S1, r1⟩ := freeze_any f3 S'; obtain ⟨P2, l2, S2, r2⟩ := freeze_any f2 S1; obtain ⟨P3, l3, S3, r3⟩ := freeze_any f1 S2; obtain ⟨x, o, vs, n, rfl, ho, hc, hd, rs'⟩ := r'.tuple_inv; obtain rfl := rs'.vals3; exact ⟨P3, _, σ'', ((l.trans l1).trans l2).trans l3, S3, .tuple (l3 _ _ (l2 _ _ (l1 _ _ ho))) hc hd (.cons r3 (.cons (r2.mono l3) (.cons (r1.mono (l2.trans l3)) .nil))), hq⟩
noncomputable def shF : AV -> List AV
 | .int n => [.int (1 * 2 ^ n.toNat)]
 | _ => []
theorem shF_flat : ∀ (s : List Nat), (s.map nA).flatMap shF = (s.map fun n => (2 : Int) ^ n).map AV.int
 | [] => rfl
 | n :: s => by
   rw [map_cons, flatMap_cons, shF_flat s]; show [AV.int (1 * 2 ^ ((n : Int).toNat))] ++ _ = _; rw [Int.one_mul, toNat_natCast]; rfl
noncomputable def mvF (rs : List (List Int)) (Y : Int) : AV -> List AV
 | .int n => if nextSym rs n.toNat = [Y] then [.int (n + 1)] else []
 | _ => []
theorem mvF_flat (rs : List (List Int)) (Y : Int) : ∀ (s : List Nat), (s.map nA).flatMap (mvF rs Y) = (moved rs s Y).map nA
 | [] => rfl
 | n :: s => by
   rw [map_cons, flatMap_cons, mvF_flat rs Y s]
   show (if nextSym rs ((n : Int).toNat) = [Y] then [AV.int ((n : Int) + 1)] else []) ++ _ = _
   rw [toNat_natCast]; unfold moved; by_cases h : nextSym rs n = [Y]
   . simp [h]
   . simp [h]
noncomputable abbrev lamQ (fd : FuncData) : Str := fd.qualname ++ ".<locals>." ++ "<lambda>"
noncomputable abbrev alM : List (Pos × Str) := [(⟨181, 47, 181, 81⟩, lamQ X.mach), (⟨183, 48, 183, 82⟩, lamQ X.mach)]
theorem moved_lt {rs : List (List Int)} {s : List Nat} {Y : Int} (hrl : ∀ r ∈ rs, r.length <= 8) : ∀ x ∈ moved rs s Y, x / 8 < rs.length := fun x hx => by
 obtain ⟨n', h1, h2, rfl⟩ := moved_mem.mp hx; have h4 := next_some h2
 have h3 : (rs.getD (n' / 8) []).length <= 8 := by
   rw [getD_eq_getElem?_getD, getElem?_eq_getElem h4.1]; exact hrl _ (getElem_mem _)
 have q := h4.2.1; rw [add_comm] at q; have e : (8 * (n' / 8) + (n' % 8 + 1)) / 8 = n' / 8 := by rw [Nat.mul_add_div (by decide), Nat.div_eq_of_lt (lt_of_lt_of_le q h3), add_zero]
 rw [<- add_assoc, div_add_mod] at e; rw [e]; exact h4.1
theorem stateR_lt {rs : List (List Int)} {syms : List Int} {s : List Nat} (hrs : ∀ r ∈ rs, r ≠ []) (hrl : ∀ r ∈ rs, r.length <= 8) (h0 : 0 < rs.length) (h : StateR rs syms s) : ∀ n ∈ s, n < 8 * rs.length := fun n hn => by
 cases h with
 | start h => exact reach_lt hrs hrl (fun x hx => by rw [List.mem_singleton.mp hx]; exact h0) ((h.mem n).mp hn)
 | step _ _ _ h => exact reach_lt hrs hrl (moved_lt hrl) ((h.mem n).mp hn)
include X in
theorem key_lam {fd : FuncData} {c2 c4 : Addr} {w : Int} {p1 p2 p3 p4 p5 q1 : Pos} {sc : Scope} {qn : Str} (hfd : LamFd fd ⟨[], [⟨"row", none, q1⟩], none, [], [], none, []⟩ (.Call (.Attribute (.Name "comp" p1) "compare" p2) [.Name "row" p3, .Name "new" p4] [] p5) sc qn [("comp", c2), ("new", c4)]) (hsc : LamScope sc)
   (hsn : sc.names = ([("row", .local), ("comp", .free), ("new", .free)] : List (Str × NameKind))) {pl : Env -> Sem Bool} (he : ∀ env, eval (.Call (.Attribute (.Name "comp" p1) "compare" p2) [.Name "row" p3, .Name "new" p4] [] p5) env = (do
     let ov <- eval (.Name "comp" p1) env
     standAt p2.atName
     let (f, first) <- holding [ov] (getMethod ov "compare" (pl env))
     callWith p5 f first (backTo p5 (starEach [.Name "row" p3, .Name "new" p4] env)) [])) {σk : St} {rows : List Row} {new : Row} (m1 : (c2, AEnt.cell (some (compA I w))) ∈ σk) (m2 : (c4, AEnt.cell (some (rowA new))) ∈ σk) : KeyOk C 2 σk (.fn fd) (rows.map rowA) (kvOf w rows new) := by
 refine lam_cmp X I hfd hsc (fun fd e1 e2 e3 v => ?_) (by rw [hsn]; exact .head _) m1 (fun {L' A'' env' τ'' Q'} row hA'' hE' hτ'' hq => ?_)
 . obtain ⟨_, _, _, _, _, _, _, _, _, _, _, _, _, _, _⟩ := fd; dsimp only at e1 e2 e3; subst e1 e2 e3; rfl
 . rw [hsn] at hE'; refine ev_mcall (pl := pl _) ?_ (he _) rfl ⟨_, _, rfl⟩; refine name_free hE' (by walk_at "m") (.head _) (mem_cons_of_mem _ (hτ'' _ m1)) ?_; refine ⟨_, _, meth_cmp I, .fn _, ?_⟩; iterate 3 walk_at "e"
   refine name_free hE' (by walk_at "m") (.tail _ (.head _)) (mem_cons_of_mem _ (hτ'' _ m2)) ?_; walk_at "e"; refine kw_nil ?_; exact cmp_call X I hA'' hq
noncomputable abbrev mcS (syms : List Int) (Sh Mo Fo L c3 c4 : Addr) (τ : St) (found : List (List Nat)) (moves : List (Int × Int)) (shelf : List Row) (p : Nat) (o1 o2 o3 nw sy : Option AV) : St :=
 (Sh, .list (shelf.map rowA)) :: (Mo, .dict (dI moves)) :: (Fo, .list (found.map stA)) :: (L, .ns [("symbols", some (.list (syms.map AV.int))), ("found", some (.val (.ref Fo))), ("moves", some (.val (.ref Mo))), ("place", some (.int p)), ("shelf", some (.val (.ref Sh))), ("moved", o1), ("state", o2), ("at", o3)]) :: (c4, .cell nw) :: (c3, .cell sy) :: τ
inductive MachI (rs : List (List Int)) (syms : List Int) (w : Int) (Sh Mo Fo L c3 c4 : Addr) (τ : St) : Nat -> St -> Prop
 | mk (p : Nat) (found : List (List Nat)) (moves : List (Int × Int)) (shelf : List Row) (o1 o2 o3 nw sy : Option AV) (hp : p <= found.length) (M : MInv rs syms w (fun i _ => i < p) found moves shelf) (hml : moves.length <= 4 * p) :
   MachI rs syms w Sh Mo Fo L c3 c4 τ (1000 - p) (mcS syms Sh Mo Fo L c3 c4 τ found moves shelf p o1 o2 o3 nw sy)
inductive MachJ (rs : List (List Int)) (syms : List Int) (w : Int) (Sh Mo Fo L c3 c4 : Addr) (p : Nat) (s : List Nat) (pre : List Int) (τ : St) : St -> Prop
 | mk (found : List (List Nat)) (moves : List (Int × Int)) (shelf : List Row) (o1 o2 o3 nw sy : Option AV) (hs : found[p]? = some s) (M : MInv rs syms w (fun i Y => i < p \/ (i = p /\ Y ∈ pre)) found moves shelf) (hml : moves.length <= 4 * p + pre.length) :
   MachJ rs syms w Sh Mo Fo L c3 c4 p s pre τ (mcS syms Sh Mo Fo L c3 c4 τ found moves shelf p o1 o2 o3 nw sy)
theorem MachJ.par {rs : List (List Int)} {syms : List Int} {w : Int} {Sh Mo Fo L c3 c4 : Addr} {p : Nat} {s : List Nat} {pre : List Int} : Par (MachJ rs syms w Sh Mo Fo L c3 c4 p s pre) := fun τ σ h => by
 cases h with | mk a b c d e f g h i j k => exact ⟨[_, _, _, _, _, _], rfl, fun τ' => .mk a b c d e f g h i j k⟩
inductive MachX (syms : List Int) (w : Int) (Sh Mo Fo L c3 c4 : Addr) (p : Nat) (τ : St) (found : List (List Nat)) (moves : List (Int × Int)) (o1 o2 nw sy : Option AV) (s' : List Nat) (r : Nat) : AFlow -> St -> Prop
 | mk (ex : List (List Nat)) (shelf' : List Row) (j : Nat) (row : Row) (h1 : (found ++ ex).Nodup) (h2 : ∀ t ∈ ex, t = s') (h3 : (found ++ ex)[j]? = some s') (h4 : shelf'.Perm ((found ++ ex).mapIdx rowOf)) (h5 : shelf'.Pairwise fun a b => cmpOf w (key2 a) (key2 b) < 0) (h6 : shelf'[r]? = some row) (h7 : row.2.2 = (j : Int)) :
   MachX syms w Sh Mo Fo L c3 c4 p τ found moves o1 o2 nw sy s' r .next (mcS syms Sh Mo Fo L c3 c4 τ (found ++ ex) moves shelf' p o1 o2 (some (.int (r : Nat))) nw sy)
theorem done_snoc {p : Nat} {pre : List Int} {Y : Int} (i : Nat) (Z : Int) : (i < p \/ (i = p /\ Z ∈ pre ++ [Y])) ↔ (i < p \/ (i = p /\ Z ∈ pre)) \/ (i = p /\ Z = Y) := by
 rw [mem_append, mem_singleton]; constructor
 . rintro (h | ⟨h, h' | h'⟩)
   . exact .inl (.inl h)
   . exact .inl (.inr ⟨h, h'⟩)
   . exact .inr ⟨h, h'⟩
 . rintro ((h | ⟨h, h'⟩) | ⟨h, h'⟩)
   . exact .inl h
   . exact .inr ⟨h, .inl h'⟩
   . exact .inr ⟨h, .inr h'⟩
theorem mach_call (K : Sk X) (T : Tb X) (hA : AOk 8 A) {rs : List (List Int)} {syms : List Int} {w : Int} (hrs : ∀ r ∈ rs, r ≠ []) (hlen : rs.length <= 8) (h0 : 0 < rs.length) (hrl : ∀ r ∈ rs, r.length <= 8) (hsy : ∀ X ∈ syms, 0 <= X /\ X < 512) (hsn : syms.Nodup) (hsl : syms.length <= 4) (hw : w ≠ 0)
   (hN : ∀ fs : List (List Nat), fs.Nodup -> (∀ s ∈ fs, StateR rs syms s) -> fs.length <= 1000) (hT : (T.tM, .tab (alM X)) ∈ σ)
   {Q : AV -> St -> Prop} (hQ : ∀ found moves shelf, MachRes rs syms w found moves shelf -> Q (.tuple [.list (found.map stA), .dict (dI moves), .list (shelf.map rowA)]) σ) : CallV C A (.fn X.mach) [.list (rs.map tA), .list (syms.map AV.int), compA I w] [] σ Q := by
 refine callV_freeze3 ?_; have hf' : DefFd X.mach _ _ _ := X.d_mach.1; obtain ⟨f1, f2, f3, f4, f5, f6⟩ := hf'; have hb := X.d_mach.2; refine callV_cells (pn := ["rules", "symbols", "comp"]) (cn := ["new", "symbol", "comp", "rules"]) (m0 := [("symbols", some (.list (syms.map AV.int))), ("found", none), ("moves", none), ("place", none), ("shelf", none), ("moved", none), ("state", none), ("at", none)]) X.G hA f1 (f3 ▸ scopeOk_of (by decide)) f4 f5 f6 (f3 ▸ by decide) (by decide) (f3 ▸ by decide) ?_ rfl (f3 ▸ by decide) (by decide) (show (["symbols", "found", "moves", "place", "shelf", "moved", "state", "at"] : List Str).Nodup by decide) ?_ ?_
 . intro vs hvs; obtain ⟨v, u, u', rfl⟩ := len3 hvs; generalize X.mach = fd at *; obtain ⟨_, _, _, _, _, _, _, _, _, _, _, _, _, _, _⟩ := fd; obtain ⟨b1, b2⟩ := hb; dsimp only at f2 b1 b2; subst f2 b1 b2; rfl
 . intro x av hx; rw [f3]; simp only [mem_cons, Prod.mk.injEq, not_mem_nil, or_false, Option.some.injEq, reduceCtorEq, and_false, or_self] at hx; obtain ⟨rfl, rfl⟩ := hx; exact ⟨by decide, .tail _ (.head _)⟩
 . intro L A' env ca hca hA' hE hcode hqual; rw [f3] at hE; obtain ⟨c4, c3, c2, c1, rfl⟩ := len4 hca; clear f1 f2 f3 f4 f5 f6 hb; refine Wp.cps fun K0 hK0 => ?_; show Ef C A' _ ((L, .ns [("symbols", some (.list (syms.map AV.int))), ("found", none), ("moves", none), ("place", none), ("shelf", none), ("moved", none), ("state", none), ("at", none)]) :: (c4, .cell none) :: (c3, .cell none) :: (c2, .cell (some (compA I w))) :: (c1, .cell (some (.list (rs.map tA)))) :: σ) _; replace hE : EnvIs env L _ [("new", c4), ("symbol", c3), ("comp", c2), ("rules", c1)] := hE; refine exs_cons (ex_assign_swap hA'.handled ?_ rfl (swapped3 hE (n1 := "found") (n2 := "moves") (n3 := "place") (by walk_at "m") (by walk_at "m") (by walk_at "m") rfl rfl (by decide) rfl rfl rfl)); refine ev_tuple ?_; walk_at "e"; refine ev_list_new ?_; iterate 3 walk_at "e"
   refine ⟨.inl rfl, .fn _, ?_⟩; iterate 3 walk_at "e"
   refine ev_list_new ?_; iterate 3 walk_at "e"
   refine ⟨szle rfl, fun W => ?_⟩; walk_at "e"; refine kw_nil ?_; refine closed_call (w0 := [0]) X K.bL K.bR K.iR (hA'.le (by decide)) hrs (by lia) (fun r hr => by have := hrl r hr; lia) (by intro x hx; rw [List.mem_singleton.mp hx]; lia) (by simp) fun s0 hs0 => ?_; walk_at "e"; refine ⟨szle rfl, fun Fo => ?_⟩; walk_at "e"; refine ev_dict_new X.G fun Mo => ?_; iterate 3 walk_at "e"
   refine ⟨szle rfl, _, rfl, rfl, ?_⟩; refine stl_loc (by assumption) (by walk_at "m") (by walk_at "m") (by walk_at "m") ?_; refine stl_loc (by assumption) (by walk_at "m") (by walk_at "m") (by walk_at "m") ?_; refine stl_loc (by assumption) (by walk_at "m") (by walk_at "m") (by walk_at "m") ?_
   have s0len : s0.length <= 64 := sorted_bound hs0.sorted fun n hn => by
     have := reach_lt hrs hrl (by simp; lia) ((hs0.mem n).mp hn); lia
   have hz0 : (s0.map nA).length <= sizeLine := szm (by lia); walk_at "g"; refine ev_list_new ?_; walk_at "e"; refine ev_tuple ?_; iterate 3 walk_at "e"
   refine ⟨.inl rfl, .builtin _, ?_⟩; iterate 4 walk_at "e"
   refine st_list (k := 0) (.led (by walk_at "m")) (gi_list (.led (by walk_at "m")) (by decide) (by decide) (e := stA s0) rfl ?_) (fun _ _ => rfl); walk_at "e"; refine kw_nil ?_; refine cv_len_list .frozen hz0 ?_; rw [length_map]; iterate 3 walk_at "e"
   refine ⟨.inl rfl, .builtin _, ?_⟩; walk_at "e"; refine ev_listcomp (m0 := [("item", none)]) (cells' := []) rfl (compScope_of (by decide)) (by assumption) (fun x hx => by simp at hx) (fun _ _ hx => (nomatch hx)) (by decide) (fun x av hx => by simp at hx) (fun _ => rfl) ?_; refine evIter_of ?_; iterate 3 walk_at "e"
   refine st_list (k := 0) (.led (by walk_at "m")) (gi_list (.led (by walk_at "m")) (by decide) (by decide) (e := stA s0) rfl ?_) (fun _ _ => rfl); refine ⟨_, mk_list (.name _ _) hA'.handled (.inl rfl), _, core_L1 shF (by rw [shF_flat, length_map, length_map, sizeLine_eq]; lia) ?_, ?_⟩
   . intro d hd Lc cenv τ' hτ hE'; obtain ⟨n, hn, rfl⟩ := List.mem_map.mp hd; have hnl : n < 64 := by have := reach_lt hrs hrl (by simp; lia) ((hs0.mem n).mp hn); lia
     walk_at "a"; refine tests_nil ?_; refine if_t rfl ?_; iterate 3 walk_at "e"
     exact bin_shl ⟨rfl, _, .none .nil, rfl⟩ (by lia) (by lia) (by decide)
   rw [shF_flat]; walk_at "e"; refine kw_nil ?_; refine cv_sum hA'.handled .frozen ?_; iterate 3 walk_at "e"
   refine ⟨szle rfl, ?_⟩; walk_at "e"; refine ⟨szle rfl, fun Sh => ?_⟩; walk_at "a"; refine exs_cons ?_; have M0 : MInv rs syms w (fun i _ => i < 0) [s0] [] [rowOf 0 s0] := ⟨by simp, ⟨s0, rfl, hs0⟩, fun s hs => by rw [List.mem_singleton.mp hs]; exact .start hs0, nodup_nil, fun i s X _ _ h => absurd h (not_lt_zero _), fun k hk => (nomatch hk), by simp, by simp⟩; refine ex_while (MachI rs syms w Sh Mo Fo L c3 c4 ((c2, .cell (some (compA I w))) :: (c1, .cell (some (.list (rs.map tA)))) :: σ)) _ (.mk 0 [s0] [] [rowOf 0 s0] none none none none none (zero_le _) M0 (zero_le _)) ?_; rintro n₁ σ₁ ⟨p, found, moves, shelf, o1, o2, o3, nw, sy, hp, M, hml⟩ KW hKW; have hfl : found.length <= 1000 := hN found M.nd M.ok; have hzf : (found.map stA).length <= sizeLine := szm (le_trans hfl (by decide)); iterate 4 walk_at "e"
   refine ⟨.inl rfl, .builtin _, ?_⟩; iterate 3 walk_at "e"
   refine kw_nil ?_; refine cv_len_list (.led (by walk_at "m")) hzf ?_; rw [length_map]; refine cmp_lt ⟨_, rfl, ?_⟩; by_cases hlt : (p : Int) < found.length
   case neg =>
     refine if_f (by simpa using hlt) ?_; refine exs_nil (exs_cons (ex_return ?_)); refine ev_tuple ?_; iterate 7 walk_at "e"
     refine ⟨szle rfl, ?_⟩; have hpe : p = found.length := le_antisymm hp (Int.ofNat_le.mp (Int.not_lt.mp hlt)); refine hK0 _ _ ⟨_, (Sh, .list (shelf.map rowA)) :: (Mo, .dict (dI moves)) :: (Fo, .list (found.map stA)) :: σ, rfl, ?_, Fo, Mo, Sh, _, _, _, _, _, _, σ, .list _, .dict _, .list _, hQ found moves shelf ⟨M.nd, M.start, M.ok, M.mnd, fun i s X h1 h2 => M.mv i s X h1 h2 (hpe ▸ (List.getElem?_eq_some_iff.mp h1).1), fun k hk => let ⟨i, X, a, b, _, d⟩ := M.mkey k hk; ⟨i, X, a, b, d⟩, M.perm, M.sorted⟩⟩; exact (((((((sublist_cons_self _ _).trans (sublist_cons_self _ _)).trans (sublist_cons_self _ _)).trans (sublist_cons_self _ _)).trans (sublist_cons_self _ _)).cons_cons _).cons_cons _).cons_cons _
   refine if_t (by simpa using hlt) ?_; have hpl : p < found.length := Int.ofNat_lt.mp hlt; have hp9 : p < 1000000000 := lt_of_lt_of_le hpl (le_trans hfl (by decide)); refine exs_cons ?_; obtain ⟨s, hs⟩ : ∃ s, found[p]? = some s := ⟨_, getElem?_eq_getElem hpl⟩; refine ex_forP (τ := (c2, .cell (some (compA I w))) :: (c1, .cell (some (.list (rs.map tA)))) :: σ) syms (fun _ Y => .int Y) (MachJ rs syms w Sh Mo Fo L c3 c4 p s) (fun _ _ => False) (fun _ _ _ => False) (fun _ => MachJ.par) Par.no (fun _ => Par.no) ?_ ?_ ?_ (fun _ _ h => h.elim) (fun _ => rfl)
   . refine evIter_of ?_; walk_at "e"; exact ⟨_, mk_list (.name _ _) hA'.handled (.inl rfl), lst_map AV.int 0 syms, .mk found moves shelf o1 o2 o3 nw sy hs (M.weak (fun i X h => .inl h) (fun i s' X h1 h2 h3 h4 => absurd (h3.resolve_right (fun h => nomatch h.2)) h4)) hml⟩
   . rintro pre Y post _ τ' hτ hsp ⟨found, moves, shelf, o1, o2, o3, nw, sy, hs, M, hml⟩ K1 hK1; have hY : Y ∈ syms := by rw [hsp]; simp
     have hYb := hsy Y hY
     have hYp : Y ∉ pre := by
       rw [hsp, nodup_append] at hsn; exact fun h => hsn.2.2 Y h Y mem_cons_self rfl
     have hpl2 := (List.getElem?_eq_some_iff.mp hs).1; have hfl2 : found.length <= 1000 := hN found M.nd M.ok; have hsR := M.ok s (mem_of_getElem? hs); have hss := hsR.sorted; have hc1 : (c1, AEnt.cell (some (.list (rs.map tA)))) ∈ τ' := hτ _ (.tail _ (.head _)); have hc2 : (c2, AEnt.cell (some (compA I w))) ∈ τ' := hτ _ (.head _); have hTt : (T.tM, AEnt.tab (alM X)) ∈ τ' := hτ _ (.tail _ (.tail _ hT)); have hslt := stateR_lt hrs hrl h0 hsR; have hsl2 : s.length <= 64 := sorted_bound hss fun n hn => by have := hslt n hn; lia
     have hmvl : (moved rs s Y).length <= 64 := by unfold moved; rw [length_map]; exact le_trans (List.length_filter_le _ _) hsl2
     walk_at "a"; have key1 : (s.map nA).flatMap (mvF rs Y) = (moved rs s Y).map nA := mvF_flat rs Y s; have hfl := free_ok (sn := [("row", .local), ("comp", .free), ("new", .free)]) (cells' := [("comp", c2), ("new", c4)]) (cells := [("new", c4), ("symbol", c3), ("comp", c2), ("rules", c1)]) rfl (sub_cons (by walk_at "m") (sub_cons (by walk_at "m") sub_nil)); have hfo := free_ok (sn := [(".0", .local), ("item", .local), ("rules", .free), ("symbol", .free)]) (cells' := [("rules", c1), ("symbol", c3)]) (cells := [("new", c4), ("symbol", c3), ("comp", c2), ("rules", c1)]) rfl (sub_cons (by walk_at "m") (sub_cons (by walk_at "m") sub_nil)); refine exs_cons (ex_assign_lc_mut (m0 := [("item", none)]) (cells' := [("rules", c1), ("symbol", c3)]) rfl (compScope_of (by decide)) hE hfo.1 hfo.2 (by decide) (allNone_of rfl) (fun _ => rfl) (by walk_at "m") rfl (by decide) ?hit)
     case hit =>
       refine evIter_of ?_; iterate 3 walk_at "e"
       refine st_listN (.led (by walk_at "m")) hp9 (e := stA s) (by rw [getElem?_map, hs]; rfl) (fun _ _ => rfl) ?_; refine ⟨_, mk_list (.name _ _) hA'.handled (.inl rfl), _, core_L1 (mvF rs Y) (by rw [key1, length_map, sizeLine_eq]; lia) ?_, ?_⟩
       . intro d hd Lc cenv τ'' hτ'' hE'; obtain ⟨n, hn, rfl⟩ := List.mem_map.mp hd; have hnl := hslt n hn; obtain ⟨rule, hrule⟩ : ∃ rule, rs[n / 8]? = some rule := ⟨_, getElem?_eq_getElem (Nat.div_lt_of_lt_mul hnl)⟩; have hr8 := hrl rule (mem_of_getElem? hrule); have hrlN : nextSym rs n = (rule.drop (1 + n % 8)).take 1 := by unfold nextSym; rw [getD_eq_getElem?_getD, hrule]; rfl
         have hbig : (rule.map AV.int).length <= sizeLine := szm (by lia); walk_at "a"; refine tests_one ?_; iterate 4 walk_at "e"
         refine name_free hE' (by walk_at "m") (List.Mem.head _) (mem_cons_of_mem _ (hτ'' _ (.tail _ (.tail _ (.tail _ (.tail _ (.tail _ (.tail _ hc1)))))))) ?_; iterate 3 walk_at "e"
         refine bin_div ?_ (by decide) (by decide); refine st_list (k := (n : Int) / 8) .frozen (gi_list .frozen (by lia) (by lia) (e := tA rule) (by rw [getElem?_map, show ((n : Int) / 8).toNat = n / 8 by lia, hrule]; rfl) ?_) (fun _ _ => rfl); refine ev_slice (ev_part_some ?_); iterate 5 walk_at "e"
         refine bin_mod ?_ (by decide); refine bin_add (ev_part_none ⟨some ((1 + n % 8 : Nat) : Int), none, ?_, .none, fun l u hl hu => ?_⟩)
         . rw [show (1 : Int) + (n : Int) % 8 = ((1 + n % 8 : Nat) : Int) by lia]; exact .int _
         refine st_tuple_slice (gi_tuple_slice hl hu hbig ?_); refine ev_slice (ev_part_none (ev_part_some ?_)); walk_at "e"; refine ⟨none, some ((1 : Nat) : Int), .none, .int _, fun l u hl hu => ?_⟩; refine st_tuple_slice (gi_tuple_slice hl hu (le_trans (cut_len _ _ _) hbig) ?_); rw [cut_from, cut_upto, <- map_drop, <- map_take, <- hrlN]; refine ev_tuple ?_; walk_at "e"; refine name_free hE' (by walk_at "m") (.tail _ (.head _)) (mem_cons_of_mem _ (hτ'' _ (by walk_at "m"))) ?_; walk_at "e"; refine ⟨szle rfl, ?_⟩; refine cmp_eq_tuples (l := nextSym rs n) (m := [Y]) hA' ⟨_, rfl, ?_⟩; have hcast : nextSym rs ((n : Int).toNat) = nextSym rs n := by rw [toNat_natCast]
         by_cases hq : nextSym rs n = [Y]
         . refine if_t (by simpa using hq) ?_; iterate 3 walk_at "e"
           refine bin_add ⟨?_, _, .none .nil, rfl⟩
           show (if nextSym rs ((n : Int).toNat) = [Y] then _ else _) = _
           rw [hcast, if_pos hq]
         . refine if_f (by simpa using hq) ?_; refine ⟨?_, _, .none .nil, rfl⟩
           show (if nextSym rs ((n : Int).toNat) = [Y] then _ else _) = _
           rw [hcast, if_neg hq]
       rw [key1]; intro D; refine ex3 (by walk_at "m") (by walk_at "m") ?_; refine exs_cons (ex_if ?_); iterate 2 walk_at "e"
       refine tr_list (.led (by walk_at "m")) (szm (by lia)) ?_; have hnd : ¬ (p < p \/ (p = p /\ Y ∈ pre)) := fun h => by rcases h with h | ⟨_, h⟩; lia; exact hYp h
       have hplen : pre.length < 4 := by
         have := congrArg List.length hsp; rw [length_append, length_cons] at this; exact lt_of_lt_of_le (Nat.lt_add_of_pos_right (succ_pos _)) (this ▸ hsl)
       have hzM : (dI moves).length <= sizeLine := szm (le_trans hml (le_trans (add_le_add (mul_le_mul_left 4 (le_trans (le_of_lt hpl2) hfl2)) (le_of_lt hplen)) (by decide))); by_cases hmv : moved rs s Y = []
       . rw [hmv]; refine if_f (by simp) ?_; refine exs_nil (exs_nil (hK1 _ _ ⟨_, sublist_cons_self _ _, .mk found moves shelf (some (.val (.ref D))) o2 o3 nw (some (.int Y)) hs (M.weak (fun i Z h => (done_snoc i Z).mpr (.inl h)) (fun i s' Z h1 h2 h3 h4 => ?_)) (by rw [length_append, length_singleton]; lia)⟩)); rcases (done_snoc i Z).mp h3 with h | ⟨e1, e2⟩
         . exact absurd h h4
         . rw [e1] at h1 ⊢; rw [e2]; rw [hs] at h1; cases h1; exact ⟨hmv, M.fresh hsy hY hnd⟩
       . refine if_t (by cases h : moved rs s Y with | nil => exact absurd h hmv | cons _ _ => rfl) ?_; walk_at "g"; iterate 2 walk_at "e"
         refine ⟨.inl rfl, .fn _, ?_⟩; iterate 5 walk_at "e"
         refine kw_nil ?_; refine closed_call (w0 := moved rs s Y) X K.bL K.bR K.iR (hA'.le (by decide)) hrs (by lia) (fun r hr => by have := hrl r hr; lia) (moved_lt hrl) (le_trans hmvl (by decide)) fun s' hs' => ?_
         have hs'lt : ∀ n ∈ s', n < 64 := fun n hn => by
           have := reach_lt hrs hrl (moved_lt hrl) ((hs'.mem n).mp hn)
           lia
         have hs'l : s'.length <= 64 := sorted_bound hs'.sorted hs'lt; have hz' : (s'.map nA).length <= sizeLine := szm (by lia); walk_at "a"; walk_at "g"; refine ev_tuple ?_; iterate 3 walk_at "e"
         refine ⟨.inl rfl, .builtin _, ?_⟩; iterate 3 walk_at "e"
         refine kw_nil ?_; refine cv_len_list .frozen hz' ?_; rw [length_map]; iterate 3 walk_at "e"
         refine ⟨.inl rfl, .builtin _, ?_⟩; walk_at "e"; refine ev_listcomp (m0 := [("item", none)]) (cells' := []) rfl (compScope_of (by decide)) (by assumption) (fun x hx => by simp at hx) (fun _ _ hx => (nomatch hx)) (by decide) (fun x av hx => by simp at hx) (fun _ => rfl) ?_; refine evIter_of ?_; walk_at "e"; refine ⟨_, mk_list (.name _ _) hA'.handled (.inl rfl), _, core_L1 shF (by rw [shF_flat, length_map, length_map, sizeLine_eq]; lia) ?_, ?_⟩
         . intro d hd Lc cenv τ'' hτ'' hE'; obtain ⟨n, hn, rfl⟩ := List.mem_map.mp hd; have hnl := hs'lt n hn; walk_at "a"; refine tests_nil ?_; refine if_t rfl ?_; iterate 3 walk_at "e"
           exact bin_shl ⟨rfl, _, .none .nil, rfl⟩ (by lia) (by lia) (by decide)
         rw [shF_flat]; walk_at "e"; refine kw_nil ?_; refine cv_sum hA'.handled .frozen ?_; iterate 3 walk_at "e"
         refine ⟨.inl rfl, .builtin _, ?_⟩; iterate 3 walk_at "e"
         refine kw_nil ?_; refine cv_len_list (.led (by walk_at "m")) (szm (by lia)) ?_; rw [length_map]; walk_at "e"; refine ⟨szle rfl, ?_⟩; walk_at "a"; have hnew : (AV.tuple [.int (s'.length : Nat), .int ((s'.map fun n => (2 : Int) ^ n)).sum, .int (found.length : Nat)]) = rowA (rowOf found.length s') := rfl; rw [hnew]; obtain ⟨r, hr⟩ := shelf_cut hw M.sorted (rowOf found.length s'); have hsl3 : shelf.length = found.length := by have := M.perm.length_eq; rwa [length_mapIdx] at this
         have hzS : (shelf.map rowA).length <= sizeLine := szm (by lia); walk_at "g"; iterate 2 walk_at "e"
         refine ⟨.inr (fun T h => by cases h), .fn _, ?_⟩; iterate 5 walk_at "e"
         refine kw_cons ?_; refine ev_lambda (cells' := [("comp", c2), ("new", c4)]) X.GB (compScope_of (by decide)) hE (hcode ▸ T.cM) (by walk_at "m") (by rw [hqual]; exact List.Mem.head _) (fun p' q' h _ _ => by rw [hqual]; simp only [mem_cons, Prod.mk.injEq, not_mem_nil, or_false] at h; rcases h with ⟨_, h⟩ | ⟨_, h⟩ <;> exact h) rfl rfl hfl.1 hfl.2 fun fd hfd => ?hgo
         case hgo =>
           refine kw_nil ?_; refine bisL_call (n := 2) (p := fun i => decide (kvOf w shelf (rowOf found.length s') i < 0)) (kv := kvOf w shelf (rowOf found.length s')) (r := r) X K.bL (hA'.le (by decide)) (.inr rfl) (fun τ h => .led (h _ (by walk_at "m"))) hzS (.inr (key_lam X I hfd ⟨compScope_of (by decide), rfl, rfl⟩ rfl (fun _ => rfl) (by walk_at "m") (by walk_at "m"))) (fun i hi => rfl) (by rw [length_map]; exact hr) ?_; walk_at "a"; refine exs_cons (Wp.mono (Q := MachX syms w Sh Mo Fo L c3 c4 p τ' found moves (some (.val (.ref D))) (some (stA s')) (some (rowA (rowOf found.length s'))) (some (.int Y)) s' r) (ex_if ?_) (fun f σ' h => ?_))
           . refine Eb.pointP (∀ h : r < shelf.length, cmpOf w (key2 shelf[r]) (key2 (rowOf found.length s')) ≠ 0) ?_ ?_
             . walk_at "e"; iterate 4 walk_at "e"
               refine ⟨.inl rfl, .builtin _, ?_⟩; iterate 3 walk_at "e"
               refine kw_nil ?_; refine cv_len_list (.led (by walk_at "m")) hzS ?_; rw [length_map]; refine cmp_eq ⟨_, rfl, ?_⟩; by_cases hrl : r = shelf.length
               . refine if_t (by simp [hrl]) ?_; exact ⟨rfl, by simp [hrl]⟩
               . refine if_f (by simp; lia) ?_; have hrlt : r < shelf.length := by have := hr.le; lia
                 iterate 2 walk_at "e"
                 refine ev_mcall ?_ rfl rfl ⟨_, _, rfl⟩; walk_at "e"; refine ⟨_, _, meth_cmp I, .fn _, ?_⟩; iterate 4 walk_at "e"
                 refine st_listN (.led (by walk_at "m")) (by lia) (e := rowA shelf[r]) (by rw [getElem?_map, getElem?_eq_getElem hrlt]; rfl) (fun _ _ => rfl) ?_; iterate 3 walk_at "e"
                 refine kw_nil ?_; refine cmp_call X I (hA'.le (by decide)) (tr_int ?_); by_cases hz : cmpOf w (key2 shelf[r]) (key2 (rowOf found.length s')) = 0
                 . refine if_f (by simpa using hz) ?_; refine it_or_nil ⟨rfl, ?_⟩; simp [hrlt, hz]
                 . refine if_t (by simpa using hz) ?_; exact ⟨rfl, by simp [hrlt, hz]⟩
             . intro b hb
               cases b with
               | false =>
                 refine if_f (by decide) ?_; have hx : ¬ ∀ h : r < shelf.length, cmpOf w (key2 shelf[r]) (key2 (rowOf found.length s')) ≠ 0 := fun h => absurd (hb.mpr h) (by decide)
                 obtain ⟨hrlt, hz⟩ : ∃ h : r < shelf.length, cmpOf w (key2 shelf[r]) (key2 (rowOf found.length s')) = 0 := by
                   by_cases hrlt : r < shelf.length
                   . refine ⟨hrlt, ?_⟩; by_cases hz : cmpOf w (key2 shelf[r]) (key2 (rowOf found.length s')) = 0
                     . exact hz
                     . exact absurd (fun _ => hz) hx
                   . exact absurd (fun h => absurd h hrlt) hx
                 obtain ⟨j, hj1, hj2⟩ := M.hit hw hs'.sorted hrlt hz; have := MachX.mk (syms := syms) (w := w) (Sh := Sh) (Mo := Mo) (Fo := Fo) (L := L) (c3 := c3) (c4 := c4) (p := p) (τ := τ') (found := found) (moves := moves) (o1 := some (.val (.ref D))) (o2 := some (stA s')) (nw := some (rowA (rowOf found.length s'))) (sy := some (.int Y)) (s' := s') (r := r) [] shelf j _ (by rw [append_nil]; exact M.nd) (fun t ht => (nomatch ht)) (by rw [append_nil]; exact hj2) (by rw [append_nil]; exact M.perm) M.sorted (getElem?_eq_getElem hrlt) hj1; rw [append_nil] at this; exact exs_nil this
               | true =>
                 refine if_t rfl ?_; have hx := hb.mp rfl; have hni : s' ∉ found := M.miss hw hr hx; refine exs_cons (ex_expr ?_ hE rfl); iterate 2 walk_at "e"
                 refine ⟨.inr (fun T h => by cases h), .fn _, ?_⟩; iterate 5 walk_at "e"
                 refine kw_cons ?_; refine ev_lambda (cells' := [("comp", c2), ("new", c4)]) X.GB (compScope_of (by decide)) hE (hcode ▸ T.cM) (by walk_at "m") (by rw [hqual]; exact List.Mem.tail _ (List.Mem.head _)) (fun p' q' h _ _ => by rw [hqual]; simp only [mem_cons, Prod.mk.injEq, not_mem_nil, or_false] at h; rcases h with ⟨_, h⟩ | ⟨_, h⟩ <;> exact h) rfl rfl hfl.1 hfl.2 fun fd hfd => ?hgo2
                 case hgo2 =>
                   have hkey2 := fun (σk : St) (rows : List Row) m1 m2 => key_lam (w := w) (σk := σk) (rows := rows) (new := rowOf found.length s') X I hfd ⟨compScope_of (by decide), rfl, rfl⟩ rfl (fun _ => rfl) m1 m2; refine kw_nil ?_
                   have hz00 : kvOf w [rowOf found.length s'] (rowOf found.length s') 0 = 0 := by
                     show cmpOf w _ _ = 0; exact (cmp_eq_zero hw _ _).mpr rfl
                   refine insL_call (n := 2) (key := .fn fd) (ks := [(("key" : Str), AV.fn fd)]) (x := 0) (ds := shelf.map rowA) (p := fun i => decide (kvOf w shelf (rowOf found.length s') i < 0)) (kv := kvOf w shelf (rowOf found.length s')) (r := r) X K.iL K.bL (hA'.le (by decide)) (by walk_at "m") hzS
                     (.inr ⟨rfl, hkey2 _ _ (by walk_at "m") (by walk_at "m"), fun A' τ Q hA'' hτ' hq => (hkey2 _ [rowOf found.length s'] (hτ' _ (by walk_at "m")) (hτ' _ (by walk_at "m"))).2 A' τ Q 0 _ hA'' (fun q hq => hq) rfl (by rw [hz00]; exact hq)⟩) (fun i hi => rfl) (by rw [length_map]; exact hr) ⟨rfl, ?_⟩
                   have hins : (shelf.map rowA).take r ++ rowA (rowOf found.length s') :: (shelf.map rowA).drop r = (shelf.take r ++ rowOf found.length s' :: shelf.drop r).map rowA := by simp
                   rw [hins]; refine exs_cons (ex_expr ?_ hE rfl); refine ev_mcall ?_ rfl rfl ⟨_, _, rfl⟩; walk_at "e"; refine ⟨_, _, meth_list (by walk_at "m") PySem.F.slot_list_append PySem.F.type_list_append, .builtin _, ?_⟩; iterate 3 walk_at "e"
                   refine kw_nil ?_; refine cv_append (by walk_at "m") (szm (by lia)) ⟨rfl, ?_⟩; have happ : found.map stA ++ [stA s'] = (found ++ [s']).map stA := by simp
                   rw [happ]; obtain ⟨hp1, hp2⟩ := shelf_ins M hw hr hx hni hs'.sorted; refine exs_nil (.mk [s'] (shelf.take r ++ rowOf found.length s' :: shelf.drop r) found.length (rowOf found.length s') ?_ (fun t ht => List.mem_singleton.mp ht) (by simp) hp1 hp2 ?_ rfl)
                   . rw [nodup_append]; exact ⟨M.nd, by simp, fun t ht y hy e => by rw [List.mem_singleton.mp hy] at e; exact hni (e ▸ ht)⟩
                   . have hrl : r <= shelf.length := hr.le; rw [getElem?_append_right (by rw [length_take]; lia), length_take, min_eq_left hrl, sub_self]; rfl
           . obtain ⟨ex, shelf', j, row, h1, h2, h3, h4, h5, h6, h7⟩ := h
             have hf1 : (found ++ ex).length <= 1000 := by
               refine hN _ h1 fun t ht => ?_; rcases List.mem_append.mp ht with h | h
               . exact M.ok t h
               . rw [h2 t h]; exact .step hsR hY hmv hs'
             have hsl4 : shelf'.length <= 1000 := by rw [h4.length_eq, length_mapIdx]; exact hf1
             walk_at "g"; iterate 4 walk_at "e"
             have hrb : r < 1000000000 := by have := hr.le; lia
             refine st_listN (.led (by walk_at "m")) hrb (e := rowA row) (by rw [getElem?_map, h6]; rfl) (fun _ _ => rfl) ?_; walk_at "e"; refine st_tuple (k := 2) (gi_tuple (by decide) (by decide) (e := .int row.2.2) rfl ?_) (fun _ _ => rfl); rw [h7]; refine as_sub ?_; iterate 5 walk_at "e"
             refine bin_mul ?_ (.inl (by decide)); walk_at "e"; refine bin_add ?_; refine si_dict (by walk_at "m") hzM ?_; rw [gPut_map]; have hM2 := M.step (done' := fun i Z => i < p \/ (i = p /\ Z ∈ pre ++ [Y])) (ex := ex) (shelf' := shelf') (j := j) hsy hs hY hnd done_snoc (fun i Z h => by rcases h with h | ⟨h, _⟩ <;> lia) hmv hs' h1 h2 h3 h4 h5; have hil := gPut_len (l := moves) (k := 512 * (p : Int) + Y) (d := (j : Int)); exact exs_nil (exs_nil (hK1 _ _ ⟨_, .refl _, .mk _ _ _ _ _ _ _ _ (get_append_of hs) hM2 (by rw [length_append]; exact le_trans hil (succ_le_succ hml))⟩))
   . intro σ₁ h; replace h := h.resolve_right id; obtain ⟨found, moves, shelf, o1, o2, o3, nw, sy, hs, M, hml⟩ := h; have hpl2 := (List.getElem?_eq_some_iff.mp hs).1; have hfl2 : found.length <= 1000 := hN found M.nd M.ok; refine exs_cons (ex_aug_name ?_); refine load_loc hE (by walk_at "m") (by walk_at "m") (by walk_at "m") ?_; walk_at "e"; refine inpl_add ?_; refine stl_loc (by assumption) (by walk_at "m") (by walk_at "m") (by walk_at "m") ?_; exact exs_nil (hKW _ _ ⟨_, sub_lt_sub_left (lt_of_lt_of_le hpl hfl) (lt_succ_self p), .mk (p + 1) found moves shelf o1 o2 o3 nw sy hpl2 (M.weak (fun i X h => by rcases h with h | ⟨h, _⟩ <;> lia) (fun i s' X h1 h2 h3 h4 => absurd (by rcases lt_or_ge i p with q | q; exact .inl q; exact .inr ⟨by lia, h2⟩) h4)) (by lia)⟩)
end
end
section
section
variable {C : Cx} {A : Around} {σ σ' : St} {P : Pool}
theorem vrs_strs : ∀ (l : List (Str × Tok)), VRs P (strValues l) ((l.map (·.1)).map AV.str)
 | [] => .nil
 | p :: l => .cons (.str _ _) (vrs_strs l)
theorem cv_split {x : Str} {c : Nat} (hz : x.length + 2 <= sizeLine) (hQ : Q (.list ((Txt.split x ⟨#[c]⟩).map AV.str)) σ) : CallV C A (.val (.builtin "str.split")) [.str x, .str ⟨#[c]⟩] [] σ Q := by
 refine CallV.v2 fun P s v0 v1 S r r1 => ?_; obtain ⟨t, rfl⟩ := r.str_inv; obtain ⟨u, rfl⟩ := r1.str_inv; have hy : ((⟨#[c]⟩ : Str).length == 0) = false := rfl
 have out : ∀ (l : List (Str × Tok)) (tk : Nat), l.map (·.1) = Txt.split x ⟨#[c]⟩ -> Post VR C P Q (.ref s.heap.objs.size) { s with toks := tk, heap := s.heap.push { cls := .type "list", data := .seq (strValues l).toArray } } := by
   intro l tk e; obtain ⟨l', S₃⟩ := frozen_new (h := s.heap) S (o := listO (strValues l) 0) rfl tk; refine ⟨_, _, _, l', S₃, .list (addP_self _ _ _) (e ▸ vrs_strs l), hQ⟩
 have hle : (Txt.split x ⟨#[c]⟩).length <= x.length + 2 := PyProof.Rows.split_le x _
 cases h1 : (decide (x.length < (⟨#[c]⟩ : Str).length) || decide (Builtin.Str.strKind x < Builtin.Str.strKind ⟨#[c]⟩))
 . cases hf : (Builtin.Str.occurrences x ⟨#[c]⟩ 0 x.length (x.length + 1)).isEmpty
   . have hsp : Txt.split x ⟨#[c]⟩ = Builtin.Str.partsBetween x (Builtin.Str.occurrences x ⟨#[c]⟩ 0 x.length (x.length + 1)) (⟨#[c]⟩ : Str).length := by
       unfold Txt.split
       rw [if_neg (ne_true_of_eq_false h1), if_neg (ne_true_of_eq_false hf)]
     refine call_meets F.slot_str_split (typeIs_str _ _ _) F.entry_str_split (F.args_str_split_2 _ _) (meets_str_split_sep x ⟨#[c]⟩ t u h1 hy hf (by lia) (by rw [<- hsp]; lia)) ?_; show wants (Post VR C P Q) No _ { s with toks := _, heap := s.heap.push { cls := .type "list", data := .seq (strsFrom s.toks (Builtin.Str.partsBetween x (Builtin.Str.occurrences x ⟨#[c]⟩ 0 x.length (x.length + 1)) (⟨#[c]⟩ : Str).length)).toArray } }; rw [strsFrom_eq]; exact out _ _ (by rw [numbered_texts, hsp])
   . refine call_meets F.slot_str_split (typeIs_str _ _ _) F.entry_str_split (F.args_str_split_2 _ _) (meets_str_split_not_found x ⟨#[c]⟩ t u h1 hy hf) ?_
     exact out [(x, t)] _ (by unfold Txt.split; rw [if_neg (ne_true_of_eq_false h1), if_pos hf]; rfl)
 . refine call_meets F.slot_str_split (typeIs_str _ _ _) F.entry_str_split (F.args_str_split_2 _ _) (meets_str_split_cannot_occur x ⟨#[c]⟩ t u h1) ?_
   exact out [(x, t)] _ (by unfold Txt.split; rw [if_pos h1]; rfl)
theorem cv_join {x : Str} {d : AV} {ws : List Str} (hd : RdL σ d (ws.map AV.str)) (hok : JoinOk x ws = true) (hQ : Q (.str (Txt.join x ws)) σ) : CallV C A (.val (.builtin "str.join")) [.str x, d] [] σ Q := by
 refine CallV.v2 fun P s v0 v1 S r0 r => ?_; obtain ⟨t, rfl⟩ := r0.str_inv; obtain ⟨a, vs, rfl, g1, g2⟩ := hd.isList S r
 have hx : ∃ l : List (Str × Tok), vs = strValues l /\ l.map (·.1) = ws := by
   clear hd r g1 hQ hok
   revert vs
   induction ws with
   | nil => intro vs g2; cases g2; exact ⟨[], rfl, rfl⟩
   | cons i l ih =>
     intro vs g2
     cases g2 with
     | cons h1 h2 =>
       cases h1 with
       | str _ t =>
         obtain ⟨xs, e1, e2⟩ := ih _ h2; exact ⟨(i, t) :: xs, by rw [e1]; rfl, by rw [map_cons, e2]⟩
 obtain ⟨l, rfl, hl⟩ := hx; exact SC.join g1 hl hok fun t' k => Post.mk (S.toks _) (.str _ _) hQ
theorem meth_str {x : Str} {name : Str} {id : String} {pl : Sem Bool} (slot : Slot "str" name id) (hty : typeOf (.builtin id) = pure (.type "method_descriptor")) : Meth C A name pl (.str x) σ (.val (.builtin id)) [.str x] := by
 intro P s v S r K hK; have r' := r; obtain ⟨t, rfl⟩ := r.str_inv; exact PySem.getMethod_builtin (typeIs_str _ _ _) F.plainAttrs_str slot hty (fun _ e => nomatch e) (hK s _ _ S (.val _) (.cons r' .nil))
end
theorem join_inj (c : Nat) : ∀ (ps ws : List Str), ps ≠ [] -> ws ≠ [] -> (∀ p ∈ ps, c ∉ p.cps.toList) -> (∀ p ∈ ws, c ∉ p.cps.toList) -> Str.join ⟨#[c]⟩ ps = Str.join ⟨#[c]⟩ ws -> ps = ws := by
 have key : ∀ (a b u v : List Nat), c ∉ a -> c ∉ b -> a ++ c :: u = b ++ c :: v -> a = b /\ u = v := by
   intro a
   induction a with
   | nil =>
     intro b u v _ hb h
     cases b with
     | nil => simp at h; exact ⟨rfl, h⟩
     | cons x b => simp at h; exact absurd (h.1 ▸ mem_cons_self) hb
   | cons x a ih =>
     intro b u v ha hb h
     cases b with
     | nil => simp at h; exact absurd (h.1 ▸ mem_cons_self) ha
     | cons y b =>
       simp at h ha hb; obtain ⟨h1, h2⟩ := ih b u v ha.2 hb.2 h.2; exact ⟨by rw [h.1, h1], h2⟩
 have cps : ∀ (p q : Str) (r : List Str), (Str.join ⟨#[c]⟩ (p :: q :: r)).cps.toList = p.cps.toList ++ c :: (Str.join ⟨#[c]⟩ (q :: r)).cps.toList := by
   intro p q r; show (p ++ ⟨#[c]⟩ ++ Str.join ⟨#[c]⟩ (q :: r)).cps.toList = _; simp only [Str.cps_append, Array.toList_append]; simp
 have one : ∀ (p : Str), (Str.join ⟨#[c]⟩ [p]).cps.toList = p.cps.toList := fun p => rfl; have ext : ∀ p q : Str, p.cps.toList = q.cps.toList -> p = q := fun p q h => Str.ext' (Array.toList_inj.mp h); intro ps
 induction ps with
 | nil => intro ws h; exact absurd rfl h
 | cons p ps ih =>
   intro ws _ hw hp hq h
   cases ws with
   | nil => exact absurd rfl hw
   | cons w ws =>
     have h' : (Str.join ⟨#[c]⟩ (p :: ps)).cps.toList = (Str.join ⟨#[c]⟩ (w :: ws)).cps.toList := by rw [h]
     have p0 := hp p mem_cons_self; have w0 := hq w mem_cons_self
     cases ps with
     | nil =>
       cases ws with
       | nil => rw [one, one] at h'; rw [ext p w h']
       | cons w2 ws => rw [one, cps] at h'; rw [h'] at p0; exact absurd (by simp) p0
     | cons p2 ps =>
       cases ws with
       | nil => rw [one, cps] at h'; rw [<- h'] at w0; exact absurd (by simp) w0
       | cons w2 ws =>
         rw [cps, cps] at h'; obtain ⟨e1, e2⟩ := key _ _ _ _ p0 w0 h'; rw [ext p w e1, ih (w2 :: ws) (by simp) (by simp) (fun x hx => hp x (mem_cons_of_mem _ hx)) (fun x hx => hq x (mem_cons_of_mem _ hx)) (ext _ _ e2)]
theorem split_join {c : Nat} {ws : List Str} (hw : ws ≠ []) (hq : ∀ p ∈ ws, c ∉ p.cps.toList) : Txt.split (Txt.join ⟨#[c]⟩ ws) ⟨#[c]⟩ = ws := by
 have hj : Txt.join ⟨#[c]⟩ ws = Str.join ⟨#[c]⟩ ws := StrLaws.glued_eq_join _ _; refine join_inj c _ _ ?_ hw (StrLaws.split_free _ c) hq ?_
 . intro e; have := PyProof.Rows.split_pos (Txt.join ⟨#[c]⟩ ws) ⟨#[c]⟩; rw [e] at this; simp at this
 . rw [StrLaws.join_split, hj]
end
section
section
variable {C : Cx} {A : Around} {σ σ' : St} {P : Pool}
theorem bin_add_tuple {ds es : List AV} (hz : ds.length + es.length <= sizeLine) (hQ : Q (.tuple (ds ++ es)) σ) : Op2 VR C A (binaryOp .Add) (.tuple ds) (.tuple es) σ Q := by
 intro P s v u S r r'; have r0 := r; have r0' := r'; obtain ⟨t, vs, rfl, ht, rs⟩ := tup_get S r; obtain ⟨b, ws, rfl, hb, rs'⟩ := tup_get S r'; obtain ⟨⟨cls, dd, data, sl⟩, ho, hc, n, hd⟩ := id ht; obtain ⟨⟨cls2, dd2, data2, sl2⟩, ho2, hc2, n2, hd2⟩ := id hb; simp only at hc hd hc2 hd2; subst hc hd hc2 hd2; have l1 := rs.length; have l2 := rs'.length; by_cases hv : vs = []
 . refine concat_meets ⟨_, ho, rfl⟩ ⟨_, ho2, rfl⟩ noFill_tuple_add seq_tuple_add PySem.F.slot_tuple_add PySem.F.entry_tuple_add (PySem.F.args_tuple_add_2 _ _)
     (tuple_addW0 t b vs.toArray ws.toArray n n2 dd dd2 sl sl2 (by simp [hv])) ⟨ho, ho2, ?_⟩
   have hde : ds = [] := by rw [hv] at l1; exact List.length_eq_zero_iff.mp l1.symm
   rw [hde, nil_append] at hQ; exact Post.mk S r0' hQ
 . by_cases hw : ws = []
   . refine concat_meets ⟨_, ho, rfl⟩ ⟨_, ho2, rfl⟩ noFill_tuple_add seq_tuple_add PySem.F.slot_tuple_add PySem.F.entry_tuple_add (PySem.F.args_tuple_add_2 _ _)
       (tuple_addW1 t b vs.toArray ws.toArray n n2 dd dd2 sl sl2 (by simpa using hv) (by simp [hw])) ⟨ho, ho2, ?_⟩
     have hde : es = [] := by rw [hw] at l2; exact List.length_eq_zero_iff.mp l2.symm
     rw [hde, append_nil] at hQ; exact Post.mk S r0 hQ
   . refine concat_meets ⟨_, ho, rfl⟩ ⟨_, ho2, rfl⟩ noFill_tuple_add seq_tuple_add PySem.F.slot_tuple_add PySem.F.entry_tuple_add (PySem.F.args_tuple_add_2 _ _)
       (tuple_addW2 t b vs.toArray ws.toArray n n2 dd dd2 sl sl2 (by simpa using hv) (by simpa using hw) (by rw [size_toArray, size_toArray]; lia)) ⟨ho, ho2, ?_⟩
     have e : vs.toArray ++ ws.toArray = (vs ++ ws).toArray := by simp
     rw [e]; obtain ⟨l', S₃⟩ := frozen_new (h := s.heap) S (o := tupO (vs ++ ws) 0) rfl s.toks; exact ⟨_, _, _, l', S₃, .tuple (addP_self _ _ _) rfl rfl ((rs.append rs').mono l'), hQ⟩
theorem gi_str {x : Str} {k : Int} {c : Nat} (h0 : 0 <= k) (h1 : k < 2 ^ 63) (hc : x.cps[k.toNat]? = some c) (hQ : Q (.str ⟨#[c]⟩) σ) : Op2 VR C A getItem (.str x) (.int k) σ Q := by
 intro P s v0 v1 S r0 r1; obtain ⟨t0, rfl⟩ := r0.str_inv; obtain ⟨t1, rfl⟩ := r1.int_inv; have hlt : k.toNat < x.length := (Array.getElem?_eq_some_iff.mp hc).1; refine PyProof.Rows.getItem_str (c := c) ?_ ?_ (Post.mk (S.toks _) (.str _ _) hQ)
 . simp; lia
 . rw [seqIndex_nn h0 hlt]; exact hc
theorem st_str {value slice : Expr} {x : Str} {k : Int} (h : Op2 VR C A getItem (.str x) (.int k) σ Q)
   (hs : ∀ o i, subscripted slice false o i = operate [o, i] (getItem o i)) : Op2 VR C A (subscriptTail value slice) (.str x) (.int k) σ Q := by
 intro P s v u S r r'; have g := h P s v u S r r'; obtain ⟨t, rfl⟩ := r.str_inv; exact tail_any (typeIs_str s x t) F.slot_str_getitem.lookup g (hs _ _)
end
noncomputable def selT (a b : Int) (i : Int) : Int := if i % 2 = 0 then a else b
noncomputable def bareR (a b left x : Int) : List Int := left :: ([selT a b (x / 3), selT a b (x / 6)].take (x % 3).toNat)
noncomputable def fullS (a b y size : Int) : Int := ([a, b, 257, 258] : List Int).getD ((y / size) % 4).toNat 0
noncomputable def fullR (a b left y : Int) : List Int := left :: (([3, 12, 48] : List Int).take (1 + (y % 3).toNat)).map (fullS a b y)
noncomputable def gramR (a b d1 d2 d3 : Int) : List (List Int) := [[256, 257], bareR a b 257 d1, fullR a b 257 d2, bareR a b 258 (d1 / 12), fullR a b 258 d3]
noncomputable def opTexts : List Str := (["(", ")", "[", "]", ":", ",", ";", "+", "-", "*", "/", "|", "&", "<", ">", "=", ".", "%", "{", "}", "==", "!=", "<=", ">=", "~", "^", "<<", ">>", "**", "+=", "-=", "*=", "/=", "%=", "&=", "|=", "^=", "<<=", ">>=", "**=", "//", "//=", "@", "@=", "->", "...", ":=", "!"] : List String).map Str.ofString
noncomputable def wordOf (s : Int) : Str := if 255 < s then ⟨#[(82 + (s - 256)).toNat]⟩ else opTexts.getD (s - 7).toNat Str.empty
noncomputable def textW (rs : List (List Int)) : List Str := rs.flatMap fun r => r.map wordOf ++ [("end" : Str)]
end
section
section
variable {C : Cx} {A : Around} {σ σ' : St} (X : Wd C)
theorem Wp.frz_loc {α β : Type} {Rl : Pool -> α -> β -> Prop} {t : Sem α} {R L : Addr} {ds : List AV} {x : Str} {m m' : List (Str × Option AV)} {Q : β -> St -> Prop} (hm : SetM m x (.list ds) m') (hx : (x, some (.val (.ref R))) ∈ m) (h : Wp Rl C A t ((L, .ns m') :: σ) Q) : Wp Rl C A t ((R, .list ds) :: (L, .ns m) :: σ) Q := by
 intro P s S; obtain ⟨P', l, S', r⟩ := freeze_list S
 have S'' : Sat C P' ([] ++ (L, .ns m') :: σ) { s with heap := s.heap, toks := s.toks } := Sat.at (σ₁ := []) (e := .ns m) S' s.toks (fun b o _ e => e) (by
   obtain ⟨nd, mm, h1, h2⟩ := S'.ents (L, .ns m) mem_cons_self; refine ⟨by rw [hm.keys.1]; exact nd, mm, h1, fun y av hy => ?_⟩; rcases hm.get nd y av hy with ⟨rfl, rfl⟩ | ⟨_, hy⟩
   . obtain ⟨v, e, rv⟩ := h2 _ _ hx; cases rv; exact ⟨_, e, r⟩
   . exact h2 y av hy)
 exact wpAny_mono (h P' s S'') (fun v s' hzz => by obtain ⟨P'', b, σ', l', S₂, r₂, q⟩ := hzz; exact ⟨P'', b, σ', l.trans l', S₂, r₂, q⟩) fun _ _ x => x
noncomputable abbrev wA (s : Int) : AV := .str (wordOf s)
noncomputable def wdF : AV -> List AV
 | .int s => [wA s]
 | _ => []
noncomputable def rowF : AV -> List AV
 | .tuple ds => [.list (ds.flatMap wdF ++ [.str "end"])]
 | _ => []
theorem wdF_flat : ∀ l : List Int, (l.map AV.int).flatMap wdF = l.map wA
 | [] => rfl
 | s :: l => by rw [map_cons, flatMap_cons, wdF_flat l]; rfl
theorem rowF_flat : ∀ l : List (List Int), (l.map tA).flatMap rowF = l.map fun r => AV.list (r.map wA ++ [.str "end"])
 | [] => rfl
 | r :: l => by
   rw [map_cons, flatMap_cons, rowF_flat l]; show [AV.list ((r.map AV.int).flatMap wdF ++ [.str "end"])] ++ _ = _; rw [wdF_flat]; rfl
theorem fullS_in (a b y z : Int) : fullS a b y z = a \/ fullS a b y z = b \/ fullS a b y z = 257 \/ fullS a b y z = 258 := by
 unfold fullS; rcases int4 (emB (y / z) (n := 4) (by decide)) with h | h | h | h <;> rw [h] <;> simp
theorem gram_sym {a b d1 d2 d3 : Int} {r : List Int} (hr : r ∈ gramR a b d1 d2 d3) {s : Int} (hs : s ∈ r) : s = a \/ s = b \/ s = 256 \/ s = 257 \/ s = 258 := by
 have hb : ∀ left x, s ∈ bareR a b left x -> s = left \/ s = a \/ s = b := by
   intro left x h; unfold bareR at h; rcases List.mem_cons.mp h with h | h
   . exact .inl h
   . have := mem_of_mem_take h; simp only [mem_cons, not_mem_nil, or_false] at this; unfold selT at this
     rcases this with h | h <;> (split at h) <;> simp [h]
 have hf : ∀ left y, s ∈ fullR a b left y -> s = left \/ s = a \/ s = b \/ s = 257 \/ s = 258 := by
   intro left y h; unfold fullR at h; rcases List.mem_cons.mp h with h | h
   . exact .inl h
   . obtain ⟨z, _, rfl⟩ := List.mem_map.mp h; exact .inr (fullS_in a b y z)
 unfold gramR at hr; simp only [mem_cons, not_mem_nil, or_false] at hr; rcases hr with rfl | rfl | rfl | rfl | rfl
 . simp at hs; rcases hs with h | h <;> simp [h]
 . rcases hb _ _ hs with h | h | h <;> simp [h]
 . rcases hf _ _ hs with h | h | h | h | h <;> simp [h]
 . rcases hb _ _ hs with h | h | h <;> simp [h]
 . rcases hf _ _ hs with h | h | h | h | h <;> simp [h]
theorem bareR_len (a b l x : Int) : (bareR a b l x).length <= 4 /\ bareR a b l x ≠ [] := ⟨succ_le_succ (le_trans (length_take_le' _ _) (le_succ 2)), cons_ne_nil _ _⟩
theorem fullR_len (a b l x : Int) : (fullR a b l x).length <= 4 /\ fullR a b l x ≠ [] := ⟨succ_le_succ (by rw [length_map]; exact length_take_le' _ _), cons_ne_nil _ _⟩
theorem gram_len {a b d1 d2 d3 : Int} {r : List Int} (hr : r ∈ gramR a b d1 d2 d3) : r.length <= 4 /\ r ≠ [] := by
 unfold gramR at hr; simp only [mem_cons, not_mem_nil, or_false] at hr; rcases hr with rfl | rfl | rfl | rfl | rfl
 . simp
 . exact bareR_len _ _ _ _
 . exact fullR_len _ _ _ _
 . exact bareR_len _ _ _ _
 . exact fullR_len _ _ _ _
theorem joinOk_words {ws : List Str} (hl : ws.length <= 100) (h : ∀ x ∈ ws, x.length <= 3) : JoinOk ⟨#[32]⟩ ws = true := by
 unfold JoinOk; rw [StrLaws.joinTotal]
 have hs : (ws.map (·.length)).sum <= 3 * ws.length := by
   clear hl
   induction ws with
   | nil => simp
   | cons x ws ih =>
     have h1 := h x mem_cons_self; have h2 := ih fun y hy => h y (mem_cons_of_mem _ hy); rw [map_cons, sum_cons, length_cons, mul_succ, add_comm]; exact add_le_add h2 h1
 have h1 : (⟨#[32]⟩ : Str).length = 1 := rfl; rw [h1, Bool.not_eq_true']; unfold Builtin.Str.tooLong; rw [decide_eq_false_iff_not, sizeLine_eq, Nat.mul_one]; exact Nat.not_lt.mpr (le_trans (add_le_add (le_trans hs (mul_le_mul_left 3 hl)) hl) (by decide))
theorem wordOf_len (s : Int) : (wordOf s).length <= 3 := by
 unfold wordOf; split
 . show 1 <= 3; decide
 . have hall : ∀ x ∈ opTexts, x.length <= 3 := by decide +kernel
   rw [getD_eq_getElem?_getD]
   cases h : opTexts[(s - 7).toNat]? with
   | none => show 0 <= 3; decide
   | some x => exact hall x (mem_of_getElem? h)
theorem split_ops (y : Str) (h : y = Txt.join ⟨#[32]⟩ (opTexts.take 46)) : Txt.split y ⟨#[32]⟩ = opTexts.take 46 := by
 rw [h]; exact split_join (by decide +kernel) (by decide +kernel)
noncomputable def gramF (a b : Int) (pre : List (Int × Int × Int)) : List (List Int) := [256, 257] :: pre.flatMap fun t => [bareR a b t.1 t.2.1, fullR a b t.1 t.2.2]
theorem gramF_len {a b : Int} {pre : List (Int × Int × Int)} (h : pre.length <= 2) : (gramF a b pre).length <= 10 := by
 have := flat_len (f := fun t : Int × Int × Int => [bareR a b t.1 t.2.1, fullR a b t.1 t.2.2]) (c := 2) (l := pre) (fun _ _ => le_refl _); unfold gramF; exact le_trans (succ_le_succ (le_trans this (mul_le_mul_left 2 h))) (by decide)
theorem gramF_snoc {a b : Int} {pre : List (Int × Int × Int)} {t : Int × Int × Int} : gramF a b (pre ++ [t]) = gramF a b pre ++ [bareR a b t.1 t.2.1, fullR a b t.1 t.2.2] := by
 unfold gramF; rw [flatMap_append]; rfl
inductive GramI (d : AV) (a b : Int) (R L c4 : Addr) (pre : List (Int × Int × Int)) (τ : St) : St -> Prop
 | mk (o1 o2 o3 : Option AV) : GramI d a b R L c4 pre τ ((R, .list ((gramF a b pre).map tA)) :: (L, .ns [("drawn", some d), ("rules", some (.val (.ref R))), ("left", o1), ("bare", o2), ("words", none)]) :: (c4, .cell o3) :: τ)
theorem GramI.par {d : AV} {a b : Int} {R L c4 : Addr} {pre : List (Int × Int × Int)} : Par (GramI d a b R L c4 pre) := fun τ σ h => by
 cases h with | mk o1 o2 o3 => exact ⟨[_, _, _], rfl, fun τ' => .mk o1 o2 o3⟩
noncomputable def fulF (a b y : Int) : AV -> List AV
 | .int z => [.int (fullS a b y z)]
 | _ => []
theorem fulF_flat (a b y : Int) : ∀ l : List Int, (l.map AV.int).flatMap (fulF a b y) = (l.map (fullS a b y)).map AV.int
 | [] => rfl
 | z :: l => by rw [map_cons, flatMap_cons, fulF_flat a b y l]; rfl
noncomputable def lsF : AV -> List AV
 | .list ds => ds
 | _ => []
theorem lsF_flat : ∀ l : List (List Int), (l.map fun r => AV.list (r.map wA ++ [.str "end"])).flatMap lsF = (textW l).map AV.str
 | [] => rfl
 | r :: l => by
   rw [map_cons, flatMap_cons, lsF_flat l]; unfold textW; rw [flatMap_cons, map_append, map_append, map_map]; rfl
theorem textW_len {a b d1 d2 d3 : Int} : (textW (gramR a b d1 d2 d3)).length <= 100 := by
 have := flat_len (f := fun r : List Int => r.map wordOf ++ [("end" : Str)]) (c := 5) (l := gramR a b d1 d2 d3) (fun r hr => by rw [length_append, length_map]; exact succ_le_succ (gram_len hr).1); exact le_trans this (show 5 * 5 <= 100 by decide)
theorem textW_word {a b d1 d2 d3 : Int} : ∀ x ∈ textW (gramR a b d1 d2 d3), x.length <= 3 := fun x hx => by
 obtain ⟨r, hr, hx⟩ := List.mem_flatMap.mp hx; rcases List.mem_append.mp hx with hx | hx
 . obtain ⟨sy, hsy, e⟩ := List.mem_map.mp hx; rw [<- e]; exact wordOf_len sy
 . rw [List.mem_singleton.mp hx]; decide +kernel
theorem gram_pair {d1 d2 d3 left x y : Int} {pre post : List (Int × Int × Int)} (h1 : 0 <= d1) (h2 : 0 <= d2) (h3 : 0 <= d3) (h : [(257, d1, d2), (258, d1 / 12, d3)] = pre ++ (left, x, y) :: post) : (0 <= x /\ 0 <= y) /\ pre.length <= 1 := by
 constructor
 . have : (left, x, y) ∈ ([(257, d1, d2), (258, d1 / 12, d3)] : List (Int × Int × Int)) := by rw [h]; exact mem_append_right _ mem_cons_self
   rcases List.mem_cons.mp this with e | this
   . cases e; exact ⟨h1, h2⟩
   . cases List.mem_singleton.mp this; exact ⟨Int.ediv_nonneg h1 (by decide), h3⟩
 . have := congrArg List.length h; rw [length_append, length_cons] at this; exact Nat.le_of_succ_le_succ (le_trans (add_le_add_left (le_add_left 1 post.length) _) (le_of_eq this.symm))
theorem sel_get (p q z : Int) : ([AV.int p, AV.int q])[(z % 2).toNat]? = some (.int (if z % 2 = 0 then p else q)) := by
 rcases int2 (emB z (n := 2) (by decide)) with h | h <;> rw [h] <;> rfl
theorem sel_T {a b p q : Int} (ha : a = 7 + p) (hb : b = 7 + q) (z : Int) : 7 + (if z % 2 = 0 then p else q) = selT a b z := by
 unfold selT; rw [ha, hb]; split <;> rfl
theorem ful_get {a b p q y sz : Int} (ha : a = 7 + p) (hb : b = 7 + q) : ([AV.int (7 + p), AV.int (7 + q), AV.int 257, AV.int 258])[(y / sz % 4).toNat]? = some (.int (fullS a b y sz)) := by
 unfold fullS; rw [ha, hb]; rcases int4 (emB (y / sz) (n := 4) (by decide)) with h | h | h | h <;> rw [h] <;> rfl
theorem ops48 : opTexts.length = 48 := by decide +kernel
theorem mod2 (z : Int) : 0 <= z % 2 /\ z % 2 < 2 ^ 63 := (emB z (by decide)).imp id fun h => Int.lt_trans h (by decide)
theorem mod4 (z : Int) : 0 <= z % 4 /\ z % 4 < 2 ^ 63 := (emB z (by decide)).imp id fun h => Int.lt_trans h (by decide)
theorem size_pos {sz : Int} {n : Nat} (h : sz ∈ ([3, 12, 48] : List Int).take n) : 0 < sz /\ sz < 1073741824 := by
 have := mem_of_mem_take h; rcases List.mem_cons.mp this with e | this
 . rw [e]; decide
 rcases List.mem_cons.mp this with e | this
 . rw [e]; decide
 . rw [List.mem_singleton.mp this]; decide
include X in
theorem gram_call (hA : AOk 3 A) {d0 d1 d2 d3 d4 : Int} (h0 : 0 <= d0) (h1 : 0 <= d1) (h2 : 0 <= d2) (h3 : 0 <= d3) {d : AV} (hd : ∀ τ, (∀ q ∈ σ, q ∈ τ) -> RdL τ d [.int d0, .int d1, .int d2, .int d3, .int d4]) {a b : Int} (ha : a = 7 + d0 % 48) (hb : b = 7 + (d0 % 48 + 1 + d0 / 48 % 47) % 48)
   {Q : AV -> St -> Prop} (hQ : Q (.tuple [.list ((gramR a b d1 d2 d3).map tA), .str (Txt.join ⟨#[32]⟩ (textW (gramR a b d1 d2 d3))), .list [.int a, .int b, .int 257, .int 258]]) σ) : CallV C A (.fn X.gram) [d] [] σ Q := by
 have hf' : DefFd X.gram _ _ _ := X.d_gram.1; obtain ⟨f1, f2, f3, f4, f5, f6⟩ := hf'; have hbr := X.d_gram.2; refine callV_cells (pn := ["drawn"]) (cn := ["full", "other", "one", "texts"]) (m0 := [("drawn", some d), ("rules", none), ("left", none), ("bare", none), ("words", none)]) X.G hA f1 (f3 ▸ scopeOk_of (by decide)) f4 f5 f6 (f3 ▸ by decide) (by decide) (f3 ▸ by decide) ?_ rfl (f3 ▸ by decide) (by decide) (show (["drawn", "rules", "left", "bare", "words"] : List Str).Nodup by decide) ?_ ?_
 . intro vs hvs; obtain ⟨v, rfl⟩ := len1 hvs; generalize X.gram = fd at *; obtain ⟨_, _, _, _, _, _, _, _, _, _, _, _, _, _, _⟩ := fd; obtain ⟨b1, b2⟩ := hbr; dsimp only at f2 b1 b2; subst f2 b1 b2; rfl
 . intro x av hx; rw [f3]; simp only [mem_cons, Prod.mk.injEq, not_mem_nil, or_false, Option.some.injEq, reduceCtorEq, and_false, or_self] at hx; obtain ⟨rfl, rfl⟩ := hx; exact ⟨by decide, .head _⟩
 . intro L A' env ca hca hA' hE hcode hqual; rw [f3] at hE; obtain ⟨c4, c3, c2, c1, rfl⟩ := len4 hca; clear f1 f2 f3 f4 f5 f6 hbr; show Ef C A' _ ((L, .ns [("drawn", some d), ("rules", none), ("left", none), ("bare", none), ("words", none)]) :: (c4, .cell none) :: (c3, .cell none) :: (c2, .cell none) :: (c1, .cell none) :: σ) _; replace hE : EnvIs env L _ [("full", c4), ("other", c3), ("one", c2), ("texts", c1)] := hE
   have hdr : ∀ {e4 e3 e2 e1 : AEnt} {m : List (Str × Option AV)} {pre : St}, RdL (pre ++ (L, .ns m) :: (c4, e4) :: (c3, e3) :: (c2, e2) :: (c1, e1) :: σ) d [.int d0, .int d1, .int d2, .int d3, .int d4] := fun {e4 e3 e2 e1 m pre} =>
     hd _ fun q hq => mem_append_right _ (.tail _ (.tail _ (.tail _ (.tail _ (.tail _ hq)))))
   walk_at "g"; walk_at "e"; refine ev_mcall ?_ rfl rfl ⟨_, _, rfl⟩; walk_at "e"; refine ⟨_, _, meth_str F.slot_str_split F.type_str_split, .builtin _, ?_⟩; iterate 3 walk_at "e"
   refine kw_nil ?_; refine cv_split (c := 32) (by decide +kernel) ?_; rw [split_ops _ (by decide +kernel)]; refine ev_list (args_cons ?_ rfl); iterate 3 walk_at "e"
   refine bin_add_str ?_ (by decide +kernel); iterate 3 walk_at "e"
   refine ⟨szle rfl, ?_⟩; refine bin_add_list .frozen .frozen (by decide +kernel) ?_
   have htx : (opTexts.take 46).map AV.str ++ [AV.str (Str.ofString ":" ++ Str.ofString "="), AV.str "!"] = opTexts.map AV.str := by
     have : opTexts = opTexts.take 46 ++ [Str.ofString ":" ++ Str.ofString "=", "!"] := by decide +kernel
     conv => rhs; rw [this, map_append]
     rfl
   rw [htx]; walk_at "a"; obtain ⟨p, hp⟩ : ∃ p, p = d0 % 48 := ⟨_, rfl⟩; obtain ⟨q, hq⟩ : ∃ q, q = (p + 1 + d0 / 48 % 47) % 48 := ⟨_, rfl⟩; rw [<- hp] at ha hb; rw [<- hq] at hb; walk_at "g"; iterate 4 walk_at "e"
   refine st_list (k := 0) (hdr (pre := [])) (gi_list (hdr (pre := [])) (by decide) (by decide) (e := .int d0) rfl ?_) (fun _ _ => rfl); walk_at "e"; refine bin_mod ?_ (by decide); rw [<- hp]; walk_at "a"; walk_at "g"; iterate 5 walk_at "e"
   refine bin_add ?_; iterate 5 walk_at "e"
   refine st_list (k := 0) (hdr (pre := [])) (gi_list (hdr (pre := [])) (by decide) (by decide) (e := .int d0) rfl ?_) (fun _ _ => rfl); walk_at "e"; refine bin_div ?_ (by decide) (by decide); walk_at "e"; refine bin_mod ?_ (by decide); refine bin_add ?_; walk_at "e"; refine bin_mod ?_ (by decide); rw [<- hq]; walk_at "a"; walk_at "g"; refine ev_list_new ?_; iterate 7 walk_at "e"
   refine ⟨szle rfl, ?_⟩; walk_at "e"; refine ⟨szle rfl, fun R => ?_⟩; walk_at "a"; refine exs_cons ?_; refine ex_forP (τ := (c3, .cell (some (.int q))) :: (c2, .cell (some (.int p))) :: (c1, .cell (some (.list (opTexts.map AV.str)))) :: σ) [(257, d1, d2), (258, d1 / 12, d3)] (fun _ t => .tuple [.int t.1, .int t.2.1, .int t.2.2]) (GramI d a b R L c4) (fun _ _ => False) (fun _ _ _ => False) (fun _ => GramI.par) Par.no (fun _ => Par.no) ?_ ?_ ?_ (fun _ _ h => h.elim) (fun _ => rfl)
   . refine evIter_of ?_; refine ev_tuple ?_; iterate 8 walk_at "e"
     refine st_list (k := 1) (hdr (pre := [_])) (gi_list (hdr (pre := [_])) (by decide) (by decide) (e := .int d1) rfl ?_) (fun _ _ => rfl); iterate 4 walk_at "e"
     refine st_list (k := 2) (hdr (pre := [_])) (gi_list (hdr (pre := [_])) (by decide) (by decide) (e := .int d2) rfl ?_) (fun _ _ => rfl); walk_at "e"; refine ⟨szle rfl, ?_⟩; iterate 9 walk_at "e"
     refine st_list (k := 1) (hdr (pre := [_])) (gi_list (hdr (pre := [_])) (by decide) (by decide) (e := .int d1) rfl ?_) (fun _ _ => rfl); walk_at "e"; refine bin_div ?_ (by decide) (by decide); iterate 4 walk_at "e"
     refine st_list (k := 3) (hdr (pre := [_])) (gi_list (hdr (pre := [_])) (by decide) (by decide) (e := .int d3) rfl ?_) (fun _ _ => rfl); walk_at "e"; refine ⟨szle rfl, ?_⟩; walk_at "e"; refine ⟨szle rfl, ?_⟩; exact ⟨_, mk_tuple (.tuple _ _ _) hA'.handled, rfl, .mk none none none⟩
   . rintro pre ⟨left, x, y⟩ post _ τ' hτ hpp ⟨o1, o2, o3⟩ K1 hK1; obtain ⟨hxy, hpl⟩ := gram_pair h1 h2 h3 hpp; have hk3 : (c3, AEnt.cell (some (.int q))) ∈ τ' := hτ _ (.head _); have hk2 : (c2, AEnt.cell (some (.int p))) ∈ τ' := hτ _ (.tail _ (.head _)); obtain ⟨rl, hrl⟩ : ∃ rl, rl = gramF a b pre := ⟨_, rfl⟩; rw [<- hrl]; have hzl : rl.length <= 10 := by rw [hrl]; exact gramF_len (le_trans hpl (by decide))
     refine as_tuple hA'.handled rfl rfl ?_; walk_at "a"; walk_at "a"; walk_at "a"; refine exs_cons (ex_expr ?_ hE rfl); refine ev_mcall ?_ rfl rfl ⟨_, _, rfl⟩; walk_at "e"; refine ⟨_, _, meth_list (by walk_at "m") PySem.F.slot_list_append PySem.F.type_list_append, .builtin _, ?_⟩; iterate 2 walk_at "e"
     refine ev_tuple ?_; iterate 3 walk_at "e"
     refine ⟨szle rfl, ?_⟩; walk_at "e"; refine ev_tuple ?_; iterate 4 walk_at "e"
     refine ev_tuple ?_; iterate 5 walk_at "e"
     refine ⟨szle rfl, ?_⟩; iterate 4 walk_at "e"
     refine bin_div ?_ (by decide) (by decide); walk_at "e"; refine bin_mod ?_ (by decide); refine st_tuple (k := x / 3 % 2) (gi_tuple (mod2 _).1 (mod2 _).2 (sel_get p q (x / 3)) ?_) (fun _ _ => rfl); refine bin_add ?_; rw [sel_T ha hb (x / 3)]; iterate 4 walk_at "e"
     refine ev_tuple ?_; iterate 5 walk_at "e"
     refine ⟨szle rfl, ?_⟩; iterate 4 walk_at "e"
     refine bin_div ?_ (by decide) (by decide); walk_at "e"; refine bin_mod ?_ (by decide); refine st_tuple (k := x / 6 % 2) (gi_tuple (mod2 _).1 (mod2 _).2 (sel_get p q (x / 6)) ?_) (fun _ _ => rfl); refine bin_add ?_; rw [sel_T ha hb (x / 6)]; walk_at "e"; refine ⟨szle rfl, ?_⟩; refine ev_slice (ev_part_none (ev_part_some ?_)); iterate 3 walk_at "e"
     refine bin_mod ⟨none, some (((x % 3).toNat : Nat) : Int), .none, ?_, fun l u hl hu => ?_⟩ (by decide)
     . rw [emT x (n := 3) (by decide), toNat_natCast]; exact .int _
     refine st_tuple_slice (gi_tuple_slice hl hu (szle rfl) ?_); rw [cut_upto]; refine bin_add_tuple (szle' (le_trans (add_le_add_left (length_take_le' _ _) _) (show 1 + 2 <= 16777216 by decide))) ?_
     have hbare : AV.tuple ([AV.int left] ++ [AV.int (selT a b (x / 3)), AV.int (selT a b (x / 6))].take (x % 3).toNat) = tA (bareR a b left x) := by
       unfold bareR tA; rw [map_cons, map_take]; rfl
     rw [hbare]; walk_at "e"; refine kw_nil ?_; refine cv_append (by walk_at "m") (szm (le_trans hzl (by decide))) ⟨rfl, ?_⟩; have hap1 : rl.map tA ++ [tA (bareR a b left x)] = (rl ++ [bareR a b left x]).map tA := by rw [map_append]; rfl
     rw [hap1]; refine exs_cons (ex_expr ?_ hE rfl); refine ev_mcall ?_ rfl rfl ⟨_, _, rfl⟩; walk_at "e"; refine ⟨_, _, meth_list (by walk_at "m") PySem.F.slot_list_append PySem.F.type_list_append, .builtin _, ?_⟩; iterate 2 walk_at "e"
     refine ev_tuple ?_; iterate 3 walk_at "e"
     refine ⟨szle rfl, ?_⟩; iterate 2 walk_at "e"
     refine ⟨.inl rfl, .type _, ?_⟩; walk_at "e"; refine ev_lc (m0 := [("size", none)]) [("full", c4), ("one", c2), ("other", c3)] rfl (by decide) hE rfl (sub_cons (by walk_at "m") (sub_cons (by walk_at "m") (sub_cons (by walk_at "m") sub_nil))) (by decide) (allNone_of rfl) (fun _ => rfl) ?_
     . skip
       refine evIter_of ?_; walk_at "e"; refine ev_tuple ?_; iterate 7 walk_at "e"
       refine ⟨szle rfl, ?_⟩; refine ev_slice (ev_part_none (ev_part_some ?_)); iterate 5 walk_at "e"
       refine bin_mod ?_ (by decide); refine bin_add ⟨none, some ((1 + (y % 3).toNat : Nat) : Int), .none, ?_, fun l u hl hu => ?_⟩
       . rw [Int.natCast_add, <- emT y (n := 3) (by decide)]; exact .int _
       refine st_tuple_slice (gi_tuple_slice hl hu (szle rfl) ?_); rw [cut_upto]; have hsz : ([AV.int 3, AV.int 12, AV.int 48] : List AV).take (1 + (y % 3).toNat) = (([3, 12, 48] : List Int).take (1 + (y % 3).toNat)).map AV.int := by rw [map_take]; rfl
       rw [hsz]; refine ⟨_, mk_tuple (.name _ _) hA'.handled, _, core_L1 (fulF a b y) (by rw [fulF_flat, length_map, length_map, length_take]; exact le_trans (min_le_right _ _) (szle rfl)) ?_, ?_⟩
       . intro dv hdv Lc cenv τ'' hτ'' hE'; obtain ⟨sz, hsz1, rfl⟩ := List.mem_map.mp hdv; have hszp := size_pos hsz1; have hg1 : (c2, AEnt.cell (some (.int p))) ∈ τ'' := hτ'' _ (.tail _ (.tail _ (.tail _ hk2))); have hg2 : (c3, AEnt.cell (some (.int q))) ∈ τ'' := hτ'' _ (.tail _ (.tail _ (.tail _ hk3))); have hg3 : (c4, AEnt.cell (some (.int y))) ∈ τ'' := hτ'' _ (.tail _ (.tail _ (.head _))); walk_at "a"; refine tests_nil ?_; refine if_t rfl ?_; walk_at "e"; refine ev_tuple ?_; iterate 4 walk_at "e"
         refine bin_add ?_; iterate 4 walk_at "e"
         refine bin_add ?_; iterate 5 walk_at "e"
         refine ⟨szle rfl, ?_⟩; iterate 4 walk_at "e"
         refine bin_div ?_ hszp.1 hszp.2; walk_at "e"; refine bin_mod ?_ (by decide); refine st_tuple (k := y / sz % 4) (gi_tuple (mod4 _).1 (mod4 _).2 (ful_get ha hb) ⟨rfl, _, .none .nil, rfl⟩) (fun _ _ => rfl)
       rw [fulF_flat]; walk_at "e"; refine kw_nil ?_; have hl4 : ((([3, 12, 48] : List Int).take (1 + (y % 3).toNat)).map (fullS a b y)).length <= 3 := by rw [length_map, length_take]; exact min_le_right _ _
       refine cv_tuple .frozen (szm (le_trans hl4 (by decide))) ?_; refine bin_add_tuple (szle' (by rw [length_map]; exact le_trans (add_le_add_left hl4 1) (by decide))) ?_; have hfull : AV.tuple ([AV.int left] ++ ((([3, 12, 48] : List Int).take (1 + (y % 3).toNat)).map (fullS a b y)).map AV.int) = tA (fullR a b left y) := rfl; rw [hfull]; walk_at "e"; refine kw_nil ?_; refine cv_append (by walk_at "m") (szm (by rw [length_append]; exact le_trans (succ_le_succ hzl) (by decide))) ⟨rfl, ?_⟩; have hap2 : (rl ++ [bareR a b left x]).map tA ++ [tA (fullR a b left y)] = (gramF a b (pre ++ [(left, x, y)])).map tA := by rw [gramF_snoc, hrl, map_append, map_append, append_assoc]; rfl
       rw [hap2]; exact exs_nil (hK1 _ _ ⟨_, .refl _, .mk _ _ _⟩)
   . intro σ₁ h; replace h := h.resolve_right id; obtain ⟨o1, o2, o3⟩ := h; have hG : gramF a b [(257, d1, d2), (258, d1 / 12, d3)] = gramR a b d1 d2 d3 := rfl; rw [hG]; refine Wp.frz_loc (x := "rules") (m' := [("drawn", some d), ("rules", some (.list ((gramR a b d1 d2 d3).map tA))), ("left", o1), ("bare", o2), ("words", none)]) (by walk_at "m") (by walk_at "m") ?_; refine exs_cons (ex_asg_lc (m0 := [("rule", none)]) [("texts", c1)] rfl (by decide) hE rfl (sub_cons (by walk_at "m") sub_nil) (by decide) (allNone_of rfl) (fun _ => rfl) (by walk_at "m") rfl (by decide) ?_)
     . skip
       refine evIter_of ?_; walk_at "e"; refine ⟨_, mk_list (.name _ _) hA'.handled (.inl rfl), _, core_L1 rowF (by rw [rowF_flat, length_map]; show (5 : Nat) <= sizeLine; rw [sizeLine_eq]; decide) ?_, ?_⟩
       . intro dv hdv Lc cenv τ' hτ' hE'; obtain ⟨r, hr, rfl⟩ := List.mem_map.mp hdv; have hrl := gram_len hr; have ht1 : (c1, AEnt.cell (some (.list (opTexts.map AV.str)))) ∈ τ' := hτ' _ (by walk_at "m"); walk_at "a"; refine tests_nil ?_; refine if_t rfl ?_; walk_at "e"; refine ev_lc (m0 := [("symbol", none)]) [("texts", c1)] rfl (by decide) hE' rfl (sub_cons (.head _) sub_nil) (by decide) (allNone_of rfl) (fun _ => rfl) ?_
         . skip
           refine evIter_of ?_; walk_at "e"; refine ⟨_, mk_tuple (.name _ _) hA'.handled, _, core_L1 wdF (by rw [wdF_flat]; exact szm (le_trans hrl.1 (by decide))) ?_, ?_⟩
           . intro dv2 hdv2 Lc2 cenv2 τ2 hτ2 hE2; obtain ⟨sy, hsy, rfl⟩ := List.mem_map.mp hdv2; have hsv := gram_sym hr hsy
             have hsb : (7 <= sy /\ sy < 55) \/ (256 <= sy /\ sy <= 258) := by
               rcases hsv with h | h | h | h | h
               . exact .inl (by rw [h, ha, hp]; exact sy48 _)
               . exact .inl (by rw [h, hb, hq]; exact sy48 _)
               . exact .inr (by rw [h]; decide)
               . exact .inr (by rw [h]; decide)
               . exact .inr (by rw [h]; decide)
             have ht2 : (c1, AEnt.cell (some (.list (opTexts.map AV.str)))) ∈ τ2 := hτ2 _ (.tail _ ht1); walk_at "a"; refine tests_nil ?_; refine if_t rfl ?_; iterate 4 walk_at "e"
             refine cmp_gt ⟨_, rfl, ?_⟩; by_cases h255 : 255 < sy
             . refine if_t (by simpa using h255) ?_; have hsb := hsb.resolve_left fun h => absurd (Int.lt_trans h255 h.2) (by decide); iterate 5 walk_at "e"
               refine bin_sub ?_; have hw : wordOf sy = ⟨#[(82 + (sy - 256)).toNat]⟩ := by unfold wordOf; rw [if_pos h255]
               refine st_str (k := sy - 256) (gi_str (c := (82 + (sy - 256)).toNat) (Int.sub_nonneg.mpr hsb.1) (lt63 (Int.sub_right_lt_of_lt_add (Int.lt_of_le_of_lt hsb.2 (by decide)))) ?_ ⟨?_, _, .none .nil, rfl⟩) (fun _ _ => rfl)
               . rcases sy3 hsb with rfl | rfl | rfl <;> decide +kernel
               . show [wA sy] = _; rw [wA, hw]
             . refine if_f (by simpa using h255) ?_; have hsb := hsb.resolve_right fun h => h255 (Int.lt_of_lt_of_le (by decide) h.1); iterate 5 walk_at "e"
               refine bin_sub ?_; have hlt : (sy - 7).toNat < opTexts.length := by rw [ops48]; exact (tn48 hsb.1 hsb.2).1
               have hw : wordOf sy = opTexts[(sy - 7).toNat] := by unfold wordOf; rw [if_neg h255, getD_eq_getElem?_getD, getElem?_eq_getElem hlt]; rfl
               refine st_list (k := sy - 7) .frozen (gi_list .frozen (Int.sub_nonneg.mpr hsb.1) (lt63 (Int.sub_right_lt_of_lt_add (Int.lt_trans hsb.2 (by decide)))) (e := wA sy) (by rw [getElem?_map, getElem?_eq_getElem hlt, wA, hw]; rfl) ⟨rfl, _, .none .nil, rfl⟩) (fun _ _ => rfl)
           rw [wdF_flat]; refine ev_list (args_cons ?_ rfl); iterate 2 walk_at "e"
           refine ⟨szle rfl, ?_⟩; refine bin_add_list .frozen .frozen (szle' (by rw [length_map]; exact le_trans (succ_le_succ hrl.1) (by decide))) ⟨?_, _, .none .nil, rfl⟩; show [AV.list ((r.map AV.int).flatMap wdF ++ [.str "end"])] = _; rw [wdF_flat]
       rw [rowF_flat]; refine ex3 (by walk_at "m") (by walk_at "m") ?_; refine exs_cons (ex_return (ev_tuple ?_)); iterate 3 walk_at "e"
       refine ev_mcall ?_ rfl rfl ⟨_, _, rfl⟩; walk_at "e"; refine ⟨_, _, meth_str F.slot_str_join F.type_str_join, .builtin _, ?_⟩; walk_at "e"; refine ev_lc (m0 := [("rule", none), ("word", none)]) [] rfl (by decide) hE rfl sub_nil (by decide) (allNone_of rfl) (fun _ => rfl) ?_
       . skip
         refine evIter_of ?_; walk_at "e"; refine ⟨_, mk_list (.name _ _) hA'.handled (.inl rfl), _, core_L2 lsF (by rw [lsF_flat]; exact szm (le_trans textW_len (by decide))) (fun _ _ => rfl) ?_, ?_⟩
         . intro dv hdv Lc cenv τ' hτ' hE'; obtain ⟨r, hr, rfl⟩ := List.mem_map.mp hdv; walk_at "a"; refine tests_nil ?_; refine if_t rfl ?_; refine evIter_of ?_; walk_at "e"; refine ⟨_, mk_list (.name _ _) hA'.handled (.inl rfl), _, fun v => [v], .none (.none .nil), rfl, (by rw [List.flatMap_singleton']; rfl), ?_⟩; intro d' hd' τ'' hτ''; walk_at "a"; refine tests_nil ?_; refine if_t rfl ?_; walk_at "e"; exact ⟨rfl, _, .some (.none .nil), rfl⟩
         . rw [lsF_flat]; walk_at "e"; refine kw_nil ?_; refine cv_join (x := ⟨#[32]⟩) .frozen (joinOk_words textW_len textW_word) ?_; walk_at "e"; refine ev_list ?_; iterate 4 walk_at "e"
           refine bin_add ?_; iterate 4 walk_at "e"
           refine bin_add ?_; iterate 5 walk_at "e"
           refine ⟨szle rfl, ?_⟩; walk_at "e"; refine ⟨szle rfl, ?_⟩; refine ⟨_, σ, rfl, ((((sublist_cons_self _ _).trans (sublist_cons_self _ _)).trans (sublist_cons_self _ _)).trans (sublist_cons_self _ _)).trans (sublist_cons_self _ _), ?_⟩; rw [<- ha, <- hb]; exact hQ
end
end
section
section
variable {C : Cx} {A : Around} {σ σ' : St} {P : Pool}
theorem intsAre {vs : List Value} {l : List Int} (h : VRs P vs (l.map AV.int)) : IntsAre vs l := by
 induction l generalizing vs with
 | nil => obtain rfl := h.nil_inv; exact .nil
 | cons i l ih => obtain ⟨v, ws, rfl, r, h'⟩ := h.cons_inv; obtain ⟨t, rfl⟩ := r.int_inv; exact .cons i t (ih h')
theorem cv_count {d : AV} {l : List Int} {k : Int} (hd : RdL σ d (l.map AV.int)) (hQ : Q (.int (l.count k : Nat)) σ) : CallV C A (.val (.builtin "list.count")) [d, .int k] [] σ Q := by
 refine CallV.v2 fun P s v0 v1 S r r1 => ?_; obtain ⟨t1, rfl⟩ := r1.int_inv; obtain ⟨a, vs, rfl, g1, g2⟩ := hd.isList S r; exact count_list_ints g1 (intsAre g2) (Post.mk (S.toks _) (.int _ _) hQ)
end
section
variable {C : Cx} {A : Around} {σ σ' : St} {P : Pool}
theorem vrs_ints {vs : List Value} {l : List Int} (h : IntsAre vs l) : VRs P vs (l.map AV.int) := by
 induction h with
 | nil => exact .nil
 | cons i t _ ih => exact .cons (.int i t) ih
theorem cv_sorted {d : AV} {l : List Int} (hd : RdL σ d (l.map AV.int)) (h64 : l.length < 64) (hQ : ∀ l' : List Int, l'.Perm l -> l'.Pairwise (· <= ·) -> Q (.list (l'.map AV.int)) σ) : CallV C A (.val (.builtin "sorted")) [d] [] σ Q := by
 refine CallV.v1 fun P s v0 S r => ?_; obtain ⟨a, vs, rfl, g1, g2⟩ := hd.isList S r; have hlen : vs.length = l.length := by have := g2.length; rwa [length_map] at this
 refine sorted_ints g1 (intsAre g2) (by lia) fun out ns' a1 a2 a3 => ?_; obtain ⟨e, he⟩ := sortedAll_at s.heap vs out; have S' := S.heap (h' := sortedAll s.heap vs out) s.toks fun _ _ => sortedAll_old; have hn : s.heap.get? (s.heap.objs.size + 1) = none := Heap.get?_none_of_le (le_succ _); obtain ⟨q1, q2⟩ := S.none_of_fresh hn; have S₃ := S'.frozen q1 q2 he; have l' := addP_le (seqObj "list" out e) q1; exact ⟨_, _, _, l', S₃, .list (vs := out.toList) (n := e) (by rw [addP_self]) (vrs_ints a1), hQ ns' a2 a3⟩
end
end
section
noncomputable def kRun {α : Type} (ans : Nat -> Nat -> Bool) : KasT α -> α
 | .ret a => a
 | .ask i j k => kRun ans (k (ans i j))
theorem kRun_bind {α β : Type} (ans : Nat -> Nat -> Bool) (f : α -> KasT β) : ∀ t : KasT α, kRun ans (t.bind f) = kRun ans (f (kRun ans t))
 | .ret _ => rfl
 | .ask i j k => kRun_bind ans f (k (ans i j))
theorem kRun_wp {α : Type} {cmp : Nat -> Nat -> (Bool -> Shared -> Prop) -> Shared -> Prop} {ans : Nat -> Nat -> Bool} {I : Shared -> Prop} (hc : ∀ i j (C : Bool -> Shared -> Prop) s, I s -> (∀ s', I s' -> C (ans i j) s') -> cmp i j C s) {Q : α -> Shared -> Prop} :
   ∀ (t : KasT α) (s : Shared), I s -> (∀ s', I s' -> Q (kRun ans t) s') -> t.kasWp cmp Q s
 | .ret _, s, hI, hq => hq s hI
 | .ask i j k, s, hI, hq => hc i j _ s hI fun s' hI' => kRun_wp hc (k (ans i j)) s' hI' hq
section
variable (a b : Nat -> Int)
noncomputable def kLt (i j : Nat) : Prop := a i < a j \/ (a i = a j /\ b i < b j)
noncomputable def kLe (i j : Nat) : Prop := a i < a j \/ (a i = a j /\ (b i < b j \/ (b i = b j /\ i < j)))
instance (i j : Nat) : Decidable (kLt a b i j) := by unfold kLt; exact inferInstance
noncomputable abbrev ansOf (i j : Nat) : Bool := decide (kLt a b i j)
noncomputable abbrev gg (p : Array Nat) (i : Nat) : Nat := p.getD i 0
variable {a b}
theorem gg_of {p q : Array Nat} {i j : Nat} (h : p[i]? = q[j]?) : gg p i = gg q j := by
 have e : ∀ (p : Array Nat) i, gg p i = (p[i]?).getD 0 := fun p i => by simp [gg, Array.getD_eq_getD_getElem?]
 rw [e, e, h]
theorem gg_rev {p : Array Nat} {i j : Nat} (hj : j <= p.size) (k : Nat) : gg (kas_rev p i j) k = if i <= k /\ k < j then gg p (i + j - 1 - k) else gg p k := by
 have e := getElem?_mirror_all (xs := p) (i := i) hj k; unfold kas_rev; by_cases h : i <= k /\ k < j
 . rw [if_pos h] at e ⊢; exact gg_of e
 . rw [if_neg h] at e ⊢; exact gg_of e
theorem mir {i j k : Nat} (h : i <= k) (h' : k < j) : i <= i + j - 1 - k /\ i + j - 1 - k < j := by
 obtain ⟨d, rfl⟩ := Nat.exists_eq_add_of_le h'; have e : i + (k.succ + d) - 1 - k = i + d := by rw [Nat.succ_add, Nat.add_succ, Nat.succ_sub_one, Nat.add_left_comm, Nat.add_sub_cancel_left]
 rw [e]; exact ⟨le_add_right i d, Nat.add_lt_add_right (lt_succ_of_le h) d⟩
theorem mir_lt {i j c m : Nat} (hij : i < j) (hj : j < m) : c + m - 1 - j < c + m - 1 - i := sub_lt_sub_left (lt_of_lt_of_le hij (le_sub_one_of_lt (lt_of_lt_of_le hj (le_add_left m c)))) hij
theorem gg_bub {p : Array Nat} {k l : Nat} (hk : k < p.size) (hl : l <= k) (i : Nat) : gg (bubble p k (k - l)) i = if i = l then gg p k else if l < i /\ i <= k then gg p (i - 1) else gg p i := by
 have e := getElem?_bubble hk (k - l) (sub_le k l) i; have e1 : k - (k - l) = l := Nat.sub_sub_self hl; rw [e1] at e; by_cases h : i = l
 . rw [if_pos h] at e ⊢; exact gg_of e
 . rw [if_neg h] at e ⊢; by_cases h' : l < i /\ i <= k
   . rw [if_pos h'] at e ⊢; exact gg_of e
   . rw [if_neg h'] at e ⊢; exact gg_of e
section
variable {x y z : Nat}
theorem kLe_same (h : a x = a y /\ b x = b y) (hl : x < y) : kLe a b x y := .inr ⟨h.1, .inr ⟨h.2, hl⟩⟩
theorem kLt_le (h : kLt a b x y) : kLe a b x y := h.imp id fun h => ⟨h.1, .inl h.2⟩
theorem kLt_l (h : a x = a z /\ b x = b z) (hl : kLt a b z y) : kLt a b x y := by unfold kLt at *; rw [h.1, h.2]; exact hl
theorem kLt_r (h : a x = a z /\ b x = b z) (hl : kLt a b y z) : kLt a b y x := by unfold kLt at *; rw [h.1, h.2]; exact hl
theorem kLt_irr (h : a x = a y /\ b x = b y) : ¬ kLt a b x y := fun q => q.elim (fun q => Int.ne_of_lt q h.1) fun q => Int.ne_of_lt q.2 h.2
theorem kLt_trans (h : kLt a b x y) (h' : kLt a b y z) : kLt a b x z := by
 rcases h with h | ⟨e, h⟩
 . exact .inl (h'.elim (Int.lt_trans h) fun q => q.1 ▸ h)
 . exact h'.imp (fun q => e ▸ q) fun q => ⟨e.trans q.1, Int.lt_trans h q.2⟩
theorem kLt_asymm (h : kLt a b x y) : ¬ kLt a b y x := fun h' => kLt_irr ⟨rfl, rfl⟩ (kLt_trans h h')
theorem nlt_nlt (h : ¬ kLt a b x y) (h' : ¬ kLt a b y x) : a x = a y /\ b x = b y := by
 have e := Int.le_antisymm (Int.not_lt.mp fun q => h' (.inl q)) (Int.not_lt.mp fun q => h (.inl q)); exact ⟨e, Int.le_antisymm (Int.not_lt.mp fun q => h' (.inr ⟨e.symm, q⟩)) (Int.not_lt.mp fun q => h (.inr ⟨e, q⟩))⟩
theorem kLe_or (h : kLe a b x y) : kLt a b x y \/ (a x = a y /\ b x = b y) /\ x < y :=
 h.elim (fun h => .inl (.inl h)) fun h => h.2.elim (fun g => .inl (.inr ⟨h.1, g⟩)) fun g => .inr ⟨⟨h.1, g.1⟩, g.2⟩
theorem nlt_le (h : ¬ kLt a b y x) (hl : x < y) : kLe a b x y := by
 by_cases q : kLt a b x y
 . exact kLt_le q
 . exact kLe_same (nlt_nlt q h) hl
theorem kLe_trans (h : kLe a b x y) (h' : kLe a b y z) : kLe a b x z := by
 rcases kLe_or h with g | ⟨g, l⟩
 . exact kLt_le ((kLe_or h').elim (kLt_trans g) fun q => g.imp (fun x => q.1.1 ▸ x) fun x => ⟨x.1.trans q.1.1, q.1.2 ▸ x.2⟩)
 . exact (kLe_or h').elim (fun q => kLt_le (kLt_l g q)) fun q => kLe_same ⟨g.1.trans q.1.1, g.2.trans q.1.2⟩ (lt_trans l q.2)
theorem kLe_same_lt (h : kLe a b x x) : x < x := (kLe_or h).elim (fun g => absurd g (kLt_irr ⟨rfl, rfl⟩)) fun g => g.2
theorem lt_nlt (h : kLt a b x y) (h' : ¬ kLt a b z y) : kLt a b x z := by
 by_cases q : kLt a b y z
 . exact kLt_trans h q
 . have e := nlt_nlt q h'; exact h.imp (fun x => e.1 ▸ x) fun x => ⟨x.1.trans e.1, e.2 ▸ x.2⟩
theorem kLe_nlt (h : kLe a b x y) : ¬ kLt a b y x := fun q => (kLe_or h).elim (fun g => kLt_asymm g q) fun g => kLt_irr ⟨g.1.1.symm, g.1.2.symm⟩ q
end
structure Gd (n : Nat) (p : Array Nat) : Prop where
 size : p.size = n
 perm : p.toList.Perm (List.range n)
theorem Gd.rev {n : Nat} {p : Array Nat} (h : Gd n p) (i j : Nat) : Gd n (kas_rev p i j) :=
 ⟨by rw [<- h.size]; exact mirror_size _ _ _ _, (Array.perm_iff_toList_perm.mp (mirror_perm _ _ _ _)).trans h.perm⟩
theorem Gd.bub {n : Nat} {p : Array Nat} (h : Gd n p) (i j : Nat) : Gd n (bubble p i j) :=
 ⟨by rw [<- h.size]; exact bubble_size _ _ _, (Array.perm_iff_toList_perm.mp (bubble_perm _ _ _)).trans h.perm⟩
theorem Gd.inj {n : Nat} {p : Array Nat} (h : Gd n p) {i j : Nat} (hi : i < n) (hj : j < n) (e : gg p i = gg p j) : i = j := by
 have nd : p.toList.Nodup := h.perm.nodup_iff.mpr List.nodup_range; have hi' : i < p.toList.length := by rw [Array.length_toList, h.size]; exact hi
 have hj' : j < p.toList.length := by rw [Array.length_toList, h.size]; exact hj
 have e2 : p.toList[i] = p.toList[j] := by
   have q1 : gg p i = p.toList[i] := by have : i < p.size := by rw [h.size]; exact hi
                                        simp [gg, Array.getD, this]
   have q2 : gg p j = p.toList[j] := by have : j < p.size := by rw [h.size]; exact hj
                                        simp [gg, Array.getD, this]
   rw [<- q1, <- q2, e]
 exact (List.getElem_inj nd).mp e2
theorem Gd.front {n m : Nat} {p : Array Nat} (h : Gd n p) (hr : ∀ i, m <= i -> i < n -> gg p i = i) {i : Nat} (hi : i < m) (hm : m <= n) : gg p i < m := by
 rcases lt_or_ge (gg p i) m with q | q
 . exact q
 . exfalso
   have hlt : gg p i < n := by
     have hs : i < p.size := by rw [h.size]; exact lt_of_lt_of_le hi hm
     have : gg p i ∈ p.toList := by
       have q1 : gg p i = p.toList[i]'(by rw [Array.length_toList]; exact hs) := by simp [gg, Array.getD, hs]
       rw [q1]; exact getElem_mem _
     exact List.mem_range.mp (h.perm.mem_iff.mp this)
   have e := hr (gg p i) q hlt; exact Nat.not_lt.mpr (h.inj hlt (lt_of_lt_of_le hi hm) e ▸ q) hi
structure Fro (a b : Nat -> Int) (n m : Nat) (p : Array Nat) : Prop where
 gd : Gd n p
 le : m <= n
 rest : ∀ i, m <= i -> i < n -> gg p i = i
 ord : ∀ i j, i < j -> j < m -> kLe a b (gg p i) (gg p j)
theorem asc_run {n : Nat} {p : Array Nat} : ∀ (f m : Nat), Fro a b n m p -> 1 <= m -> m + f = n -> Fro a b n (kRun (ansOf a b) (kas_asc p f m)) p /\ m <= kRun (ansOf a b) (kas_asc p f m) /\
     (kRun (ansOf a b) (kas_asc p f m) < n -> kLt a b (gg p (kRun (ansOf a b) (kas_asc p f m))) (gg p (kRun (ansOf a b) (kas_asc p f m) - 1)))
 | 0, m, h, h1, hf => ⟨h, le_refl _, fun hlt => absurd hlt (Nat.not_lt.mpr (le_of_eq hf.symm))⟩
 | f + 1, m, h, h1, hf => by
   show Fro a b n (kRun _ (if ansOf a b (gg p m) (gg p (m - 1)) = true then KasT.ret m else kas_asc p f (m + 1))) p /\ _ <= (kRun _ (if ansOf a b (gg p m) (gg p (m - 1)) = true then KasT.ret m else kas_asc p f (m + 1))) /\
     ((kRun _ (if ansOf a b (gg p m) (gg p (m - 1)) = true then KasT.ret m else kas_asc p f (m + 1))) < n -> kLt a b (gg p (kRun _ (if ansOf a b (gg p m) (gg p (m - 1)) = true then KasT.ret m else kas_asc p f (m + 1)))) (gg p (kRun _ (if ansOf a b (gg p m) (gg p (m - 1)) = true then KasT.ret m else kas_asc p f (m + 1)) - 1)))
   by_cases hc : ansOf a b (gg p m) (gg p (m - 1)) = true
   . rw [if_pos hc]; exact ⟨h, le_refl _, fun _ => of_decide_eq_true hc⟩
   . rw [if_neg hc]; have hc' : ¬ kLt a b (gg p m) (gg p (m - 1)) := fun q => hc (decide_eq_true q); have hmn : m < n := by rw [<- hf]; exact Nat.lt_add_of_pos_right (succ_pos f)
     have em := h.rest m (le_refl _) hmn; have hfr := h.gd.front h.rest (i := m - 1) (sub_lt h1 one_pos) h.le
     have hfro : Fro a b n (m + 1) p := by
       refine ⟨h.gd, hmn, fun i hi hn => h.rest i (le_of_succ_le hi) hn, fun i j hij hj => ?_⟩; rcases lt_or_ge j m with q | q
       . exact h.ord i j hij q
       . obtain rfl : j = m := le_antisymm (le_of_lt_succ hj) q; have hlast : kLe a b (gg p (j - 1)) (gg p j) := nlt_le hc' (by rw [em]; exact hfr); rcases lt_or_ge i (j - 1) with q' | q'
         . exact kLe_trans (h.ord i (j - 1) q' (sub_lt h1 one_pos)) hlast
         . obtain rfl : i = j - 1 := le_antisymm (le_sub_one_of_lt hij) q'; exact hlast
     obtain ⟨g1, g2, g3⟩ := asc_run f (m + 1) hfro (le_add_left 1 m) (by rw [add_right_comm]; exact hf); exact ⟨g1, le_of_succ_le g2, g3⟩
structure Des (a b : Nat -> Int) (n m q : Nat) (p : Array Nat) : Prop where
 gd : Gd n p
 le : m <= n
 lq : q + 1 <= m
 rest : ∀ i, m - (q + 1) <= i -> i < n -> gg p i = i
 same : ∀ i, m - (q + 1) <= i -> i < m -> a i = a (m - 1) /\ b i = b (m - 1)
 ord : ∀ i j, i < j -> j < m - (q + 1) -> kLe a b (gg p j) (gg p i)
 big : ∀ i, i < m - (q + 1) -> kLt a b (m - 1) (gg p i)
structure Dow (a b : Nat -> Int) (n m : Nat) (p : Array Nat) : Prop where
 gd : Gd n p
 le : m <= n
 rest : ∀ i, m <= i -> i < n -> gg p i = i
 ord : ∀ i j, i < j -> j < m -> kLe a b (gg p j) (gg p i)
theorem Des.turn {n m q : Nat} {p : Array Nat} (h : Des a b n m q p) : Dow a b n m (if q > 0 then kas_rev p (m - (q + 1)) m else p) /\ ∀ i, i < m -> ¬ kLt a b (gg (if q > 0 then kas_rev p (m - (q + 1)) m else p) i) (m - 1) := by
 have hsz : m <= p.size := by rw [h.gd.size]; exact h.le
 have key : ∀ k, gg (if q > 0 then kas_rev p (m - (q + 1)) m else p) k = if m - (q + 1) <= k /\ k < m then m - (q + 1) + m - 1 - k else gg p k := by
   intro k; have lq := h.lq; have hle := h.le; by_cases hq : q > 0
   . rw [if_pos hq, gg_rev hsz]; by_cases hk : m - (q + 1) <= k /\ k < m
     . rw [if_pos hk, if_pos hk]; exact h.rest _ (mir hk.1 hk.2).1 (lt_of_lt_of_le (mir hk.1 hk.2).2 hle)
     . rw [if_neg hk, if_neg hk]
   . rw [if_neg hq]; by_cases hk : m - (q + 1) <= k /\ k < m
     . rw [if_pos hk, h.rest _ hk.1 (lt_of_lt_of_le hk.2 hle)]; obtain rfl : q = 0 := Nat.eq_zero_of_not_pos hq; have e : k = m - 1 := le_antisymm (le_sub_one_of_lt hk.2) hk.1; rw [e, Nat.add_sub_assoc (lt_of_le_of_lt (zero_le k) hk.2), Nat.add_sub_cancel]
     . rw [if_neg hk]
 have hg : Gd n (if q > 0 then kas_rev p (m - (q + 1)) m else p) := by split; exact h.gd.rev _ _; exact h.gd
 refine ⟨⟨hg, h.le, fun i hi hn => ?_, fun i j hij hj => ?_⟩, fun i hi => ?_⟩
 . rw [key, if_neg fun x => Nat.not_lt.mpr hi x.2]; exact h.rest i (le_trans (sub_le _ _) hi) hn
 . have lq := h.lq; rw [key i, key j]; by_cases h1 : m - (q + 1) <= i
   . have him := lt_trans hij hj; have h1j := le_trans h1 (le_of_lt hij); rw [if_pos (show m - (q + 1) <= i /\ i < m from ⟨h1, him⟩), if_pos (show m - (q + 1) <= j /\ j < m from ⟨h1j, hj⟩)]; have s1 := h.same (m - (q + 1) + m - 1 - i) (mir h1 him).1 (mir h1 him).2; have s2 := h.same (m - (q + 1) + m - 1 - j) (mir h1j hj).1 (mir h1j hj).2; exact kLe_same ⟨s2.1.trans s1.1.symm, s2.2.trans s1.2.symm⟩ (mir_lt hij hj)
   . rw [if_neg (show ¬ (m - (q + 1) <= i /\ i < m) from fun x => h1 x.1)]; by_cases h2 : m - (q + 1) <= j
     . rw [if_pos (show m - (q + 1) <= j /\ j < m from ⟨h2, hj⟩)]; have s2 := h.same (m - (q + 1) + m - 1 - j) (mir h2 hj).1 (mir h2 hj).2; exact kLt_le (kLt_l s2 (h.big i (Nat.not_le.mp h1)))
     . rw [if_neg (show ¬ (m - (q + 1) <= j /\ j < m) from fun x => h2 x.1)]; exact h.ord i j hij (Nat.not_le.mp h2)
 . have lq := h.lq; rw [key]; by_cases h1 : m - (q + 1) <= i
   . rw [if_pos ⟨h1, hi⟩]; exact kLt_irr (h.same (m - (q + 1) + m - 1 - i) (mir h1 hi).1 (mir h1 hi).2)
   . rw [if_neg fun x => h1 x.1]; exact kLt_asymm (h.big i (Nat.not_le.mp h1))
theorem desc_run {n : Nat} : ∀ (f m q : Nat) (p : Array Nat), Des a b n m q p -> m + f = n -> ∃ p' m' q', kRun (ansOf a b) (kas_desc f p m q) = (p', m', q') /\ Des a b n m' q' p'
 | 0, m, q, p, h, hf => ⟨p, m, q, rfl, h⟩
 | f + 1, m, q, p, h, hf => by
   have lq := h.lq; have hmn : m < n := by rw [<- hf]; exact Nat.lt_add_of_pos_right (succ_pos f)
   have hf' : m + 1 + f = n := by rw [add_right_comm]; exact hf
   have em : gg p m = m := h.rest m (sub_le _ _) hmn; have em1 : gg p (m - 1) = m - 1 := h.rest (m - 1) (Nat.sub_le_sub_left (le_add_left 1 q) m) (lt_of_le_of_lt (sub_le m 1) hmn)
   show ∃ p' m' q', kRun _ (if ansOf a b (gg p m) (gg p (m - 1)) = true then (if q > 0 then kas_desc f (kas_rev p (m - (q + 1)) m) (m + 1) 0 else kas_desc f p (m + 1) 0)
     else .ask (gg p (m - 1)) (gg p m) fun d => if d = true then .ret (p, m, q) else kas_desc f p (m + 1) (q + 1)) = (p', m', q') /\ _
   by_cases hc : ansOf a b (gg p m) (gg p (m - 1)) = true
   . rw [if_pos hc]; have hc' : kLt a b m (m - 1) := by have := of_decide_eq_true hc; rwa [em, em1] at this
     obtain ⟨D, hbig⟩ := h.turn
     have e : (if q > 0 then kas_desc f (kas_rev p (m - (q + 1)) m) (m + 1) 0 else kas_desc f p (m + 1) 0) = kas_desc f (if q > 0 then kas_rev p (m - (q + 1)) m else p) (m + 1) 0 := by split <;> rfl
     rw [e]; refine desc_run f (m + 1) 0 _ ⟨D.gd, hmn, le_add_left 1 m, fun i hi hn => D.rest i hi hn, fun i hi hm => ?_, fun i j hij hj => D.ord i j hij hj, fun i hi => lt_nlt hc' (hbig i hi)⟩ hf'; have e : i = m + 1 - 1 := le_antisymm (le_of_lt_succ hm) hi; exact ⟨congrArg a e, congrArg b e⟩
   . rw [if_neg hc]; have hc' : ¬ kLt a b m (m - 1) := fun x => hc (decide_eq_true (by rw [em, em1]; exact x))
     show ∃ p' m' q', kRun _ (if ansOf a b (gg p (m - 1)) (gg p m) = true then .ret (p, m, q) else kas_desc f p (m + 1) (q + 1)) = (p', m', q') /\ _
     by_cases hd : ansOf a b (gg p (m - 1)) (gg p m) = true
     . rw [if_pos hd]; exact ⟨p, m, q, rfl, h⟩
     . rw [if_neg hd]; have hd' : ¬ kLt a b (m - 1) m := fun x => hd (decide_eq_true (by rw [em, em1]; exact x)); have heq := nlt_nlt hc' hd'; have e : m + 1 - (q + 1 + 1) = m - (q + 1) := Nat.add_sub_add_right m 1 (q + 1); refine desc_run f (m + 1) (q + 1) p ⟨h.gd, hmn, succ_le_succ lq, fun i hi hn => h.rest i (e ▸ hi) hn, fun i hi hm => ?_, fun i j hij hj => h.ord i j hij (e ▸ hj), fun i hi => kLt_l heq (h.big i (e ▸ hi))⟩ hf'; show a i = a m /\ b i = b m; rcases lt_or_ge i m with x | x
       . have := h.same i (e ▸ hi) x; exact ⟨this.1.trans heq.1.symm, this.2.trans heq.2.symm⟩
       . rw [le_antisymm (le_of_lt_succ hm) x]; exact ⟨rfl, rfl⟩
theorem Dow.turn {n m : Nat} {p : Array Nat} (h : Dow a b n m p) : Fro a b n m (kas_rev p 0 m) := by
 have hsz : m <= p.size := by rw [h.gd.size]; exact h.le
 refine ⟨h.gd.rev _ _, h.le, fun i hi hn => ?_, fun i j hij hj => ?_⟩
 . rw [gg_rev hsz, if_neg fun x => Nat.not_lt.mpr hi x.2]; exact h.rest i hi hn
 . have him := lt_trans hij hj; rw [gg_rev hsz, gg_rev hsz, if_pos ⟨zero_le _, him⟩, if_pos ⟨zero_le _, hj⟩]; exact h.ord _ _ (mir_lt hij hj) (mir (zero_le i) him).2
theorem tail3_run {n m : Nat} {p : Array Nat} (h : Dow a b n m p) (h1 : 1 <= m) : Fro a b n (kRun (ansOf a b) (kas_tail3 m n p)).1 (kRun (ansOf a b) (kas_tail3 m n p)).2 /\ 1 <= (kRun (ansOf a b) (kas_tail3 m n p)).1 := by
 unfold kas_tail3; rw [kRun_bind]; obtain ⟨g1, g2, _⟩ := asc_run (n - m) m h.turn h1 (add_sub_of_le h.le); exact ⟨g1, le_trans h1 g2⟩
theorem descPart_run {n m : Nat} {p : Array Nat} (h : Dow a b n m p) (h1 : 1 <= m) (hm : m < n) (hl : ∀ i, i < m -> kLt a b m (gg p i)) : Fro a b n (kRun (ansOf a b) (kas_descPart m n p)).1 (kRun (ansOf a b) (kas_descPart m n p)).2 /\ 1 <= (kRun (ansOf a b) (kas_descPart m n p)).1 := by
 unfold kas_descPart; rw [kRun_bind]; obtain ⟨p', m', q', e, D⟩ := desc_run (a := a) (b := b) (n - (m + 1)) (m + 1) 0 p ⟨h.gd, hm, le_add_left 1 m, fun i hi hn => h.rest i hi hn, fun i hi hm => have e : i = m + 1 - 1 := le_antisymm (le_of_lt_succ hm) hi; ⟨congrArg a e, congrArg b e⟩, fun i j hij hj => h.ord i j hij hj, fun i hi => hl i hi⟩ (add_sub_of_le hm); rw [e]; dsimp only; have T := D.turn.1; have hm1 := le_trans (le_add_left 1 q') D.lq; by_cases hq : q' > 0
 . rw [if_pos hq] at T ⊢; exact tail3_run T hm1
 . rw [if_neg hq] at T ⊢; exact tail3_run T hm1
theorem count_run {n : Nat} {p : Array Nat} (h : Fro a b n 1 p) (h2 : 2 <= n) : Fro a b n (kRun (ansOf a b) (kas_count n p)).1 (kRun (ansOf a b) (kas_count n p)).2 /\ 1 <= (kRun (ansOf a b) (kas_count n p)).1 := by
 unfold kas_count; rw [kRun_bind]; obtain ⟨g1, g2, g3⟩ := asc_run (n - 1) 1 h (le_refl _) (add_sub_of_le (le_of_succ_le h2)); generalize kRun (ansOf a b) (kas_asc p (n - 1) 1) = m at g1 g2 g3 ⊢; by_cases hm : (m == n) = true
 . rw [if_pos hm]; exact ⟨g1, g2⟩
 . rw [if_neg hm]; have hmn : m < n := lt_of_le_of_ne g1.le fun e => hm (by simp [e]); have hn0 : 0 < n := lt_of_lt_of_le (by decide) h2; have hm1 : m - 1 < m := sub_lt g2 one_pos; have hlt := g3 hmn; have em : gg p m = m := g1.rest m (le_refl _) hmn; have e0 : ∀ i, 1 <= i -> i < n -> gg p i = i := h.rest; have e00 : gg p 0 = 0 := Nat.lt_one_iff.mp (h.gd.front h.rest (i := 0) one_pos h.le); have eAll : ∀ i, i < n -> gg p i = i := fun i hi => by rcases Nat.eq_zero_or_pos i with rfl | q; exact e00; exact e0 i q hi
   by_cases h1 : m > 1
   . rw [if_pos h1]
     show Fro a b n (kRun _ (if ansOf a b (gg p 0) (gg p (m - 1)) = true then KasT.ret (m, p) else kas_descPart m n (kas_rev p 0 m))).1 (kRun _ (if ansOf a b (gg p 0) (gg p (m - 1)) = true then KasT.ret (m, p) else kas_descPart m n (kas_rev p 0 m))).2 /\ 1 <= (kRun _ (if ansOf a b (gg p 0) (gg p (m - 1)) = true then KasT.ret (m, p) else kas_descPart m n (kas_rev p 0 m))).1
     by_cases hc : ansOf a b (gg p 0) (gg p (m - 1)) = true
     . rw [if_pos hc]; exact ⟨g1, g2⟩
     . rw [if_neg hc]; have hc' : ¬ kLt a b (gg p 0) (gg p (m - 1)) := fun x => hc (decide_eq_true x); have hsz : m <= p.size := by rw [g1.gd.size]; exact g1.le
       have hrev : ∀ i, i < m -> gg (kas_rev p 0 m) i = m - 1 - i := fun i hi => by rw [gg_rev hsz, if_pos ⟨zero_le _, hi⟩, eAll _ (lt_of_lt_of_le (mir (zero_le i) hi).2 g1.le), zero_add]
       have hm1n := lt_trans hm1 hmn
       have heq : ∀ i, i < m -> a i = a (m - 1) /\ b i = b (m - 1) := fun i hi => by
         rw [eAll 0 hn0, eAll (m - 1) hm1n] at hc'
         have x1 : i = 0 \/ kLe a b 0 i := by
           rcases Nat.eq_zero_or_pos i with q | q
           . exact .inl q
           . right; have := g1.ord 0 i q hi; rwa [eAll 0 hn0, eAll i (lt_trans hi hmn)] at this
         have x2 : i = m - 1 \/ kLe a b i (m - 1) := by
           rcases lt_or_ge i (m - 1) with q | q
           . right; have := g1.ord i (m - 1) q hm1; rwa [eAll (m - 1) hm1n, eAll i (lt_trans hi hmn)] at this
           . left; exact le_antisymm (le_sub_one_of_lt hi) q
         have x3 : kLe a b 0 (m - 1) := by have := g1.ord 0 (m - 1) (Nat.sub_pos_of_lt h1) hm1; rwa [eAll (m - 1) hm1n, eAll 0 hn0] at this
         have e0 := nlt_nlt hc' (kLe_nlt x3); rcases x1 with q | x1
         . rw [q]; exact e0
         . rcases x2 with q | x2
           . rw [q]; exact ⟨rfl, rfl⟩
           . have h0i : ¬ kLt a b 0 i := fun q => kLe_nlt x2 (kLt_l ⟨e0.1.symm, e0.2.symm⟩ q); have e1 := nlt_nlt h0i (kLe_nlt x1); exact ⟨e1.1.symm.trans e0.1, e1.2.symm.trans e0.2⟩
       refine descPart_run ⟨g1.gd.rev _ _, g1.le, fun i hi hn => ?_, fun i j hij hj => ?_⟩ g2 hmn fun i hi => ?_
       . rw [gg_rev hsz, if_neg fun x => Nat.not_lt.mpr hi x.2]; exact eAll i hn
       . rw [hrev i (lt_trans hij hj), hrev j hj]; have s1 := heq (m - 1 - i) (lt_of_le_of_lt (sub_le _ _) hm1); have s2 := heq (m - 1 - j) (lt_of_le_of_lt (sub_le _ _) hm1); exact kLe_same ⟨s2.1.trans s1.1.symm, s2.2.trans s1.2.symm⟩ (sub_lt_sub_left (lt_of_lt_of_le hij (le_sub_one_of_lt hj)) hij)
       . rw [hrev i hi]; have s1 := heq (m - 1 - i) (lt_of_le_of_lt (sub_le _ _) hm1); rw [em, eAll (m - 1) hm1n] at hlt; exact kLt_r s1 hlt
   . rw [if_neg h1]; obtain rfl : m = 1 := le_antisymm (Nat.not_lt.mp h1) g2; refine descPart_run ⟨g1.gd, g1.le, fun i hi hn => eAll i hn, fun i j hij hj => absurd (lt_of_lt_of_le hij (le_of_lt_succ hj)) (not_lt_zero i)⟩ (le_refl _) hmn fun i hi => ?_; obtain rfl : i = 0 := Nat.lt_one_iff.mp hi; rw [em] at hlt; exact hlt
theorem place_c (p : Array Nat) (k f l r : Nat) : kas_place p k (f + 1) l r = if l ≥ r then .ret l else .ask (gg p k) (gg p ((l + r) / 2)) fun c => if c = true then kas_place p k f l ((l + r) / 2) else kas_place p k f ((l + r) / 2 + 1) r := rfl
theorem place_run {n k : Nat} {p : Array Nat} (h : Fro a b n k p) (hk : k < n) : ∀ (f l r : Nat), r <= k -> l <= r -> r <= l + f -> (∀ i, i < l -> kLe a b (gg p i) k) -> (∀ i, r <= i -> i < k -> kLe a b k (gg p i)) ->
     kRun (ansOf a b) (kas_place p k f l r) <= k /\ (∀ i, i < kRun (ansOf a b) (kas_place p k f l r) -> kLe a b (gg p i) k) /\ (∀ i, kRun (ansOf a b) (kas_place p k f l r) <= i -> i < k -> kLe a b k (gg p i))
 | 0, l, r, hr, hlr, hf, h1, h2 => ⟨le_trans hlr hr, h1, fun i hi hik => h2 i (le_trans hf hi) hik⟩
 | f + 1, l, r, hr, hlr, hf, h1, h2 => by
   rw [place_c]; by_cases hge : l ≥ r
   . rw [if_pos hge]; exact ⟨le_trans hlr hr, h1, fun i hi hik => h2 i (le_trans hge hi) hik⟩
   . rw [if_neg hge]; have mm := mid2 (Nat.not_le.mp hge); have mk := lt_of_lt_of_le mm.2 hr
     show kRun _ (if ansOf a b (gg p k) (gg p ((l + r) / 2)) = true then kas_place p k f l ((l + r) / 2) else kas_place p k f ((l + r) / 2 + 1) r) <= k /\ (∀ i, i < kRun _ (if ansOf a b (gg p k) (gg p ((l + r) / 2)) = true then kas_place p k f l ((l + r) / 2) else kas_place p k f ((l + r) / 2 + 1) r) -> _) /\ (∀ i, kRun _ (if ansOf a b (gg p k) (gg p ((l + r) / 2)) = true then kas_place p k f l ((l + r) / 2) else kas_place p k f ((l + r) / 2 + 1) r) <= i -> _)
     have ek : gg p k = k := h.rest k (le_refl _) hk; have hfront : gg p ((l + r) / 2) < k := h.gd.front h.rest mk h.le; have ordLe : ∀ i j, i < j -> j < k -> kLe a b (gg p i) (gg p j) := h.ord; by_cases hc : ansOf a b (gg p k) (gg p ((l + r) / 2)) = true
     . rw [if_pos hc]; have hc' : kLt a b k (gg p ((l + r) / 2)) := by have := of_decide_eq_true hc; rwa [ek] at this
       refine place_run h hk f l ((l + r) / 2) (le_of_lt mk) mm.1 (le_of_lt_succ (lt_of_lt_of_le mm.2 hf)) h1 fun i hi hik => ?_; rcases lt_or_ge ((l + r) / 2) i with q | q
       . exact kLe_trans (kLt_le hc') (ordLe _ _ q hik)
       . rw [le_antisymm q hi]; exact kLt_le hc'
     . rw [if_neg hc]; have hc' : ¬ kLt a b k (gg p ((l + r) / 2)) := fun x => hc (decide_eq_true (by rw [ek]; exact x)); refine place_run h hk f ((l + r) / 2 + 1) r hr mm.2 (le_trans hf (le_trans (add_le_add_right mm.1 (f + 1)) (le_of_eq (add_right_comm _ f 1)))) (fun i hi => ?_) h2; rcases lt_or_ge i ((l + r) / 2) with q | q
       . exact kLe_trans (ordLe _ _ q mk) (nlt_le hc' hfront)
       . rw [le_antisymm (le_of_lt_succ hi) q]; exact nlt_le hc' hfront
theorem bin_run {n : Nat} : ∀ (f k : Nat) (p : Array Nat), Fro a b n k p -> 1 <= k -> k + f = n -> Fro a b n n (kRun (ansOf a b) (kas_bin f p k))
 | 0, k, p, h, h1, hf => by obtain rfl : k = n := hf
                            exact h
 | f + 1, k, p, h, h1, hf => by
   show Fro a b n n (kRun _ ((kas_place p k k 0 k).bind fun l => kas_bin f (bubble p k (k - l)) (k + 1))); rw [kRun_bind]; have hk : k < n := by rw [<- hf]; exact Nat.lt_add_of_pos_right (succ_pos f)
   obtain ⟨g1, g2, g3⟩ := place_run h hk k 0 k (le_refl _) (zero_le _) (le_of_eq (zero_add k).symm) (fun i hi => absurd hi (not_lt_zero _)) (fun i hi hik => absurd hik (Nat.not_lt.mpr hi)); generalize kRun (ansOf a b) (kas_place p k k 0 k) = l at g1 g2 g3 ⊢; have hsz : k < p.size := by rw [h.gd.size]; exact hk
   have ek : gg p k = k := h.rest k (le_refl _) hk; refine bin_run f (k + 1) _ ⟨h.gd.bub _ _, hk, fun i hi hn => ?_, fun i j hij hj => ?_⟩ (le_add_left 1 k) (by rw [add_right_comm]; exact hf)
   . rw [gg_bub hsz g1, if_neg (ne_of_gt (lt_of_le_of_lt g1 hi)), if_neg fun x => Nat.not_lt.mpr x.2 hi]; exact h.rest i (le_of_succ_le hi) hn
   . have hjk := le_of_lt_succ hj; have hjk1 : j - 1 < k := lt_of_lt_of_le (sub_lt (lt_of_le_of_lt (zero_le i) hij) one_pos) hjk; rw [gg_bub hsz g1, gg_bub hsz g1]; by_cases i1 : i = l
     . subst i1; rw [if_pos rfl, if_neg (ne_of_gt hij), if_pos ⟨hij, hjk⟩, ek]; exact g3 _ (le_sub_one_of_lt hij) hjk1
     . rw [if_neg i1]; by_cases j1 : j = l
       . subst j1; rw [if_pos rfl, if_neg fun x => Nat.lt_asymm x.1 hij, ek]; exact g2 _ hij
       . rw [if_neg j1]; by_cases i2 : l < i /\ i <= k
         . rw [if_pos i2, if_pos ⟨lt_trans i2.1 hij, hjk⟩]; exact h.ord _ _ (Nat.sub_lt_sub_right (lt_of_le_of_lt (zero_le l) i2.1) hij) hjk1
         . rw [if_neg i2]; by_cases j2 : l < j /\ j <= k
           . rw [if_pos j2]; exact h.ord _ _ (lt_of_lt_of_le (lt_of_le_of_ne (Nat.not_lt.mp fun x => i2 ⟨x, le_trans (le_of_lt hij) j2.2⟩) i1) (le_sub_one_of_lt j2.1)) hjk1
           . rw [if_neg j2]; exact h.ord _ _ hij (lt_of_lt_of_le (lt_of_le_of_ne (Nat.not_lt.mp fun x => j2 ⟨x, hjk⟩) j1) g1)
theorem sort_run {n : Nat} (h2 : 2 <= n) : (kRun (ansOf a b) (kas_sort n)).toList.Perm (List.range n) /\ (kRun (ansOf a b) (kas_sort n)).toList.Pairwise (kLe a b) := by
 have h0 : Fro a b n 1 (List.toArray (List.range n)) := by
   refine ⟨⟨by simp, List.Perm.refl _⟩, le_of_succ_le h2, fun i hi hn => by simp [gg, Array.getD, hn], fun i j hij hj => absurd (lt_of_lt_of_le hij (le_of_lt_succ hj)) (not_lt_zero i)⟩
 have key : Fro a b n n (kRun (ansOf a b) (kas_sort n)) := by
   unfold kas_sort; rw [kRun_bind]; obtain ⟨g1, g2⟩ := count_run h0 h2; generalize kRun (ansOf a b) (kas_count n (List.toArray (List.range n))) = r at g1 g2 ⊢; by_cases hr : r.1 < n
   . rw [if_pos hr, Nat.max_eq_left g2]; exact bin_run _ _ _ g1 g2 (add_sub_of_le g1.le)
   . rw [if_neg hr]; have : r.1 = n := le_antisymm g1.le (Nat.not_lt.mp hr); rw [this] at g1; exact g1
 refine ⟨key.gd.perm, ?_⟩; rw [List.pairwise_iff_getElem]; intro i j hi hj hij; have hi' : i < n := by rw [Array.length_toList, key.gd.size] at hi; exact hi
 have hj' : j < n := by rw [Array.length_toList, key.gd.size] at hj; exact hj
 have := key.ord i j hij hj'; have hs := key.gd.size; have e1 : gg (kRun (ansOf a b) (kas_sort n)) i = (kRun (ansOf a b) (kas_sort n)).toList[i] := by simp [gg, Array.getD, hs, hi']
 have e2 : gg (kRun (ansOf a b) (kas_sort n)) j = (kRun (ansOf a b) (kas_sort n)).toList[j] := by simp [gg, Array.getD, hs, hj']
 rwa [e1, e2] at this
noncomputable def kAll {α : Type} (n : Nat) : KasT α -> (α -> Prop) -> Prop
 | .ret a, Q => Q a
 | .ask i j k, Q => i < n /\ j < n /\ ∀ b, kAll n (k b) Q
theorem kAll_bind {α β : Type} {n : Nat} {f : α -> KasT β} {Q : β -> Prop} : ∀ {t : KasT α}, kAll n t (fun a => kAll n (f a) Q) -> kAll n (t.bind f) Q
 | .ret _, h => h
 | .ask i j k, h => ⟨h.1, h.2.1, fun b => kAll_bind (h.2.2 b)⟩
theorem kAll_mono {α : Type} {n : Nat} {Q Q' : α -> Prop} (hq : ∀ a, Q a -> Q' a) : ∀ {t : KasT α}, kAll n t Q -> kAll n t Q'
 | .ret _, h => hq _ h
 | .ask i j k, h => ⟨h.1, h.2.1, fun b => kAll_mono hq (h.2.2 b)⟩
theorem kRun_in {α : Type} {cmp : Nat -> Nat -> (Bool -> Shared -> Prop) -> Shared -> Prop} {ans : Nat -> Nat -> Bool} {I : Shared -> Prop} {n : Nat} (hc : ∀ i j, i < n -> j < n -> ∀ (C : Bool -> Shared -> Prop) s, I s -> C (ans i j) s -> cmp i j C s) {Q : α -> Shared -> Prop} :
   ∀ (t : KasT α), kAll n t (fun _ => True) -> ∀ (s : Shared), I s -> (∀ s', I s' -> Q (kRun ans t) s') -> t.kasWp cmp Q s
 | .ret _, _, s, hI, hq => hq s hI
 | .ask i j k, hk, s, hI, hq => hc i j hk.1 hk.2.1 _ s hI (kRun_in hc (k (ans i j)) (hk.2.2 _) s hI hq)
noncomputable def Sml (n : Nat) (p : Array Nat) : Prop := ∀ i, gg p i < n
theorem Sml.perm {n : Nat} {p q : Array Nat} (h : Sml n p) (hp : q.Perm p) : Sml n q := by
 intro i; have h0 : 0 < n := lt_of_le_of_lt (zero_le _) (h 0)
 have key : ∀ (p : Array Nat), (∀ x ∈ p.toList, x < n) -> ∀ i, gg p i < n := fun p hx i => by
   by_cases hi : i < p.size
   . have e : gg p i = p.toList[i]'(by rw [Array.length_toList]; exact hi) := by simp [gg, Array.getD, hi]
     rw [e]; exact hx _ (getElem_mem _)
   . have e : gg p i = 0 := by simp [gg, Array.getD, hi]
     rw [e]; exact h0
 refine key q (fun x hx => ?_) i; have hx' : x ∈ p.toList := (Array.perm_iff_toList_perm.mp hp).mem_iff.mp hx; obtain ⟨j, hj, rfl⟩ := List.getElem_of_mem hx'
 have e : gg p j = p.toList[j] := by
   have : j < p.size := by rwa [Array.length_toList] at hj
   simp [gg, Array.getD, this]
 rw [<- e]; exact h j
theorem Sml.rev {n : Nat} {p : Array Nat} (h : Sml n p) (i j : Nat) : Sml n (kas_rev p i j) := h.perm (mirror_perm _ _ _ _)
theorem Sml.bub {n : Nat} {p : Array Nat} (h : Sml n p) (i j : Nat) : Sml n (bubble p i j) := h.perm (bubble_perm _ _ _)
theorem asc_all {n : Nat} {p : Array Nat} (h : Sml n p) : ∀ (f m : Nat), kAll n (kas_asc p f m) (fun _ => True)
 | 0, m => trivial
 | f + 1, m => ⟨h _, h _, fun b => by cases b with
   | true => exact trivial
   | false => exact asc_all h f (m + 1)⟩
theorem desc_all {n : Nat} : ∀ (f : Nat) (p : Array Nat) (m q : Nat), Sml n p -> kAll n (kas_desc f p m q) (fun r => Sml n r.1)
 | 0, p, m, q, h => h
 | f + 1, p, m, q, h => ⟨h _, h _, fun b => by
   cases b with
   | true =>
     show kAll n (if q > 0 then kas_desc f (kas_rev p (m - (q + 1)) m) (m + 1) 0 else kas_desc f p (m + 1) 0) _
     split
     . exact desc_all f _ _ _ (h.rev _ _)
     . exact desc_all f _ _ _ h
   | false => exact ⟨h _, h _, fun b => by cases b with
     | true => exact h
     | false => exact desc_all f _ _ _ h⟩⟩
theorem tail3_all {n m k : Nat} {p : Array Nat} (h : Sml n p) : kAll n (kas_tail3 m k p) (fun r => Sml n r.2) := by
 unfold kas_tail3; exact kAll_bind (kAll_mono (fun _ _ => h.rev _ _) (asc_all (h.rev _ _) _ _))
theorem descPart_all {n m k : Nat} {p : Array Nat} (h : Sml n p) : kAll n (kas_descPart m k p) (fun r => Sml n r.2) := by
 unfold kas_descPart; refine kAll_bind (kAll_mono (fun r hr => ?_) (desc_all _ _ _ _ h)); split
 . exact tail3_all (hr.rev _ _)
 . exact tail3_all hr
theorem count_all {n k : Nat} {p : Array Nat} (h : Sml n p) : kAll n (kas_count k p) (fun r => Sml n r.2) := by
 unfold kas_count; refine kAll_bind (kAll_mono (fun m _ => ?_) (asc_all h _ _)); split
 . exact h
 . split
   . refine ⟨h _, h _, fun b => ?_⟩
     cases b with
     | true => exact h
     | false => exact descPart_all (h.rev _ _)
   . exact descPart_all h
theorem place_all {n k : Nat} {p : Array Nat} (h : Sml n p) : ∀ (f l r : Nat), kAll n (kas_place p k f l r) (fun _ => True)
 | 0, l, r => trivial
 | f + 1, l, r => by
   rw [place_c]; split
   . exact trivial
   . exact ⟨h _, h _, fun b => by cases b with
     | true => exact place_all h f _ _
     | false => exact place_all h f _ _⟩
theorem bin_all {n : Nat} : ∀ (f k : Nat) (p : Array Nat), Sml n p -> kAll n (kas_bin f p k) (fun _ => True)
 | 0, k, p, h => trivial
 | f + 1, k, p, h => by
   exact kAll_bind (t := kas_place p k k 0 k) (kAll_mono (fun l _ => bin_all f (k + 1) _ (h.bub _ _)) (place_all h _ _ _))
theorem sort_asks {n : Nat} (h1 : 1 <= n) : kAll n (kas_sort n) (fun _ => True) := by
 have h0 : Sml n (List.toArray (List.range n)) := fun i => by
   by_cases hi : i < n
   . simp [gg, Array.getD, hi]
   . simp [gg, Array.getD, hi]; exact h1
 unfold kas_sort; refine kAll_bind (kAll_mono (fun r hr => ?_) (count_all h0)); split
 . exact bin_all _ _ _ hr
 . exact trivial
end
end
section
theorem AOk.in1 {n : Nat} {A : Around} (h : AOk (n + 1) A) : AOk n A.in1 := ⟨h.handled, le_of_succ_le h.depth, by
 have := h.units; rw [mul_succ, <- add_assoc, add_right_comm] at this; exact le_trans (add_le_add_right (add_le_add_left (by decide) _) _) this⟩
noncomputable def Coll (C : Cx) (A : Around) (d : AV) (ds : List AV) (σ : St) : Prop :=
 ∀ P s v (Q : List Value -> Shared -> Prop), Sat C P σ s -> VR P v d -> (∀ h' tk vs, (∀ b o, s.heap.get? b = some o -> h'.get? b = some o) -> VRs P vs ds -> Q vs { s with heap := h', toks := tk }) -> wpAny (model C.prog C.w) A (collect v) Q No s
section
variable {C : Cx} {A : Around} {σ σ' : St} {P : Pool}
theorem coll_list {d : AV} {ds : List AV} (hd : RdL σ d ds) (hz : ds.length <= sizeLine) : Coll C A d ds σ := by
 intro P s v Q S r hQ; obtain ⟨a, vs, rfl, g1, g2⟩ := hd.isList S r; have hlen : vs.length = ds.length := g2.length; refine collect_list g1 (hQ _ s.toks vs (fun b o q => ?_) g2) (by lia); have hlt : b < s.heap.objs.size := Heap.lt_size q; rw [Heap.get?_update_ne _ _ _ _ (ne_of_lt hlt), Heap.get?_push_ne _ _ _ (ne_of_lt hlt)]; exact q
theorem coll_dict (hh : A.handled = none) {d : AV} {ds : List (Int × AV)} (hd : RdD σ d ds) (hz : ds.length <= sizeLine) : Coll C A d (ds.map fun p => .int p.1) σ := by
 intro P s v Q S r hQ; obtain ⟨a, kvs, rfl, lo, hD, hkv, hnd⟩ := hd.get S r; obtain ⟨ep, hat⟩ := hD.dictAt; refine kdu_collect (kdl_dict (knd := intKind C.prog C.w) (kvs := kvs) (ep := ep) lo) hh hat (by rw [hkv.length]; exact hz) fun h' tk acc hk hacc => hQ h' tk acc.toList hk ?_; have hsz : acc.toList.length = ds.length := by rw [Array.length_toList, hacc.1, hkv.length]
 have key : ∀ (vs : List Value) (ds : List (Int × AV)), vs.length = ds.length -> (∀ (j : Nat) (v : Value), vs[j]? = some v -> ∃ (i : Int) (t : Tok), (ds[j]?).map (fun p : Int × AV => p.1) = some i /\ v = Value.int i t) -> VRs P vs (ds.map fun p => AV.int p.1) := by
   intro vs
   induction vs with
   | nil => intro ds hl _; cases ds with
     | nil => exact .nil
     | cons _ _ => simp at hl
   | cons v vs ih =>
     intro ds hl h
     cases ds with
     | nil => simp at hl
     | cons p ds =>
       obtain ⟨i, t, e1, e2⟩ := h 0 v rfl; have e1' : p.1 = i := by simpa using e1
       rw [e2, <- e1']; exact .cons (.int _ _) (ih ds (by simpa using hl) fun j u hu => by simpa using h (j + 1) u (by simpa using hu))
 refine key _ _ hsz fun j u hu => ?_; obtain ⟨k, x, h1, h2⟩ := hacc.2 j u (by rw [<- Array.getElem?_toList]; exact hu); obtain ⟨t, ht⟩ := Value.isInt_shape h2; obtain ⟨dd, h3, _⟩ := VRkv.at hkv h1; exact ⟨k, t, by rw [h3]; rfl, ht⟩
theorem coll_range (hh : A.handled = none) {n : Nat} {t u v : Tok} (hn : n <= 2 ^ 24) : Coll C A (.obj (rangeO 0 n 1 t u v)) ((List.range n).map fun (i : Nat) => .int i) σ := by
 rintro P s _ Q S r hQ; obtain ⟨a, rfl, ho⟩ := r.obj_inv; have hr : IsRange s.heap a 0 n 1 t u v := S.pool _ _ ho; unfold collect; refine wpAny_bind (wpAny_runValue (codeAny_builtin entry_proto_collect' ?_)); rw [Around.under_plainId PySem.F.plain_proto_collect _]; show wpAny _ A.in1 (newList [] >>= fun l => again (.builtin "list.__iadd__" ⟨[l, .ref a], []⟩)) _ _ s; refine wpAny_bind (wpAny_newObj_type ?_); refine wpAny_pure ⟨plainId_quiet PySem.F.plain_list_iadd _, codeAny_builtin entry_list_iadd' ?_⟩; rw [Around.under_plainId PySem.F.plain_list_iadd _]; have hS₁ : (s.heap.push { cls := .type "list", data := .seq ([] : List Value).toArray }).get? s.heap.objs.size = some { cls := .type "list", data := .seq #[] } := Heap.get?_push_size _ rfl; show wpAny _ A.in1 (Builtin.List.listExtendWith (.ref s.heap.objs.size) (.ref a) (.ref s.heap.objs.size)) _ _ _; have hsize : Builtin.Range.rangeSize 0 n 1 = (n : Int) := by unfold Builtin.Range.rangeSize; simp; lia
 have hsm : Builtin.Range.small 0 n 1 = true := by
   unfold Builtin.Range.small Builtin.Range.rangeFitsLong; rw [hsize]; simp
   lia
 have key := wpAny_extend_range (prog := C.prog) (w := C.w) (A := A) (s := { s with heap := s.heap.push { cls := .type "list", data := .seq ([] : List Value).toArray } })
   (R := fun (q : Result) (s' : Shared) => ∃ (h' : Heap) (tk : Nat) (acc' : Array Value) (c' : Nat), q = .ok (.ret (.ref s.heap.objs.size)) /\ s' = { s with heap := h', toks := tk } /\
     (∀ b o, s.heap.get? b = some o -> h'.get? b = some o) /\ h'.get? s.heap.objs.size = some { cls := .type "list", dict := none, data := .seq acc' c', slots := #[] } /\ ItemsOf (fun i v => ∃ t, v = .int (0 + i * 1) t) acc' n)
   hh (Heap.get?_push_of_some _ hr) hsm hsize hn s.heap.objs.size (.ref s.heap.objs.size) 0 hS₁
   (fun h' tk acc' c' hk hS' hacc => ⟨h', tk, acc', c', rfl, rfl, fun b o e => hk b o (ne_of_lt (Heap.lt_size e)) (Heap.get?_push_of_some _ e), hS', hacc⟩)
 have fin : ∀ (h' : Heap) (tk : Nat) (acc' : Array Value), (∀ b o, s.heap.get? b = some o -> h'.get? b = some o) -> ItemsOf (fun i v => ∃ t, v = .int (0 + i * 1) t) acc' n -> Q acc'.toList { s with heap := h', toks := tk } := by
   intro h' tk acc' hk hacc; refine hQ h' tk _ hk ?_; have hsz : acc'.toList.length = ((List.range n).map fun (i : Nat) => AV.int i).length := by rw [Array.length_toList, hacc.1]; simp
   have gen : ∀ (vs : List Value) (ds : List AV), vs.length = ds.length -> (∀ (j : Nat) (v : Value), vs[j]? = some v -> ∃ d, ds[j]? = some d /\ VR P v d) -> VRs P vs ds := by
     intro vs
     induction vs with
     | nil => intro ds hl _; cases ds with
       | nil => exact .nil
       | cons _ _ => simp at hl
     | cons v vs ih =>
       intro ds hl h
       cases ds with
       | nil => simp at hl
       | cons p ds =>
         obtain ⟨d, e1, e2⟩ := h 0 v rfl; have e1' : p = d := by simpa using e1
         rw [e1']; exact .cons e2 (ih ds (by simpa using hl) fun j u hu => by simpa using h (j + 1) u (by simpa using hu))
   refine gen _ _ hsz fun j u hu => ?_; obtain ⟨t, ht⟩ := hacc.2 j u (by rw [<- Array.getElem?_toList]; exact hu)
   have hj : j < n := by
     have := (List.getElem?_eq_some_iff.mp hu).1; rw [Array.length_toList, hacc.1] at this; exact this
   refine ⟨.int j, by simp [hj], ?_⟩; rw [ht, show (0 : Int) + (j : Int) * 1 = j by lia]; exact .int _ _
 refine wpAny_mono key (fun fin' s' x => ?_) fun e s' x => ?_
 . cases fin' with
   | done f =>
     obtain ⟨h', tk, acc', c', e, rfl, hk, hS', hacc⟩ := x; cases e; show wpAny _ A (load s.heap.objs.size >>= _) _ _ _; refine wpAny_bind (wpAny_load hS' ?_); exact wpAny_pure (fin h' tk acc' hk hacc)
   | again c₁ =>
     refine ⟨x.1, codeAny_mono x.2 fun q s₂ y => ?_⟩; obtain ⟨h', tk, acc', c', rfl, rfl, hk, hS', hacc⟩ := y; show wpAny _ A (load s.heap.objs.size >>= _) _ _ _; refine wpAny_bind (wpAny_load hS' ?_); exact wpAny_pure (fin h' tk acc' hk hacc)
 . obtain ⟨_, _, _, _, e', _⟩ := x; cases e'
theorem cv_sorted_of {d : AV} {l : List Int} (hc : Coll C A.in1 d (l.map AV.int) σ) (h64 : l.length < 64) (hQ : ∀ l' : List Int, l'.Perm l -> l'.Pairwise (· <= ·) -> Q (.list (l'.map AV.int)) σ) : CallV C A (.val (.builtin "sorted")) [d] [] σ Q := by
 refine CallV.v1 fun P s v0 S r => ?_; refine Calls.call_function_entry kind_sorted plain_sorted entry_sorted (args_sorted1 _) ?_; unfold Builtin.«sorted»; refine wpAny_bind (m := checkCount "sorted" 1 1 _) (wpAny_pure ?_); refine wpAny_bind (hc P s _ _ S r fun h' tk vs hk rv => ?_); have hlen : vs.length = l.length := by have := rv.length; rwa [length_map] at this
 refine wpAny_bind (wpAny_newList ?_ (by rw [sizeLine_eq]; lia)); have hoL : (h'.push (seqObj "list" vs.toArray 0)).get? h'.objs.size = some (seqObj "list" vs.toArray 0) := Heap.get?_push_size _ rfl; show wpAny _ _ _ _ _ { s with heap := h'.push (seqObj "list" vs.toArray 0), toks := tk }; refine wpAny_bind (wpAny_holding (wpAny_call_entry slot_list_sort ⟨_, hoL, rfl⟩ entry_list_sort (list_sort_tree hoL (intsAre rv) (by lia) fun out ns' a1 a2 a3 => ⟨_, rfl, ?_⟩) (args_list_sort _))); refine wpAny_pure ⟨_, rfl, ?_⟩
 have hk2 : ∀ b o, s.heap.get? b = some o -> (sortedHeap (h'.push (seqObj "list" vs.toArray 0)) h'.objs.size vs out).get? b = some o := fun b o q => by
   have h1 := hk b o q; have hlt : b < h'.objs.size := Heap.lt_size h1; rw [sortedHeap_old (ne_of_lt hlt) (by rw [size_push']; exact Nat.lt_succ_of_lt hlt), Heap.get?_push_ne _ _ _ (ne_of_lt hlt)]; exact h1
 obtain ⟨e, he⟩ := sortedHeap_at (out := out) hoL; have S' := S.heap (h' := sortedHeap (h'.push (seqObj "list" vs.toArray 0)) h'.objs.size vs out) tk hk2
 have hn : s.heap.get? h'.objs.size = none := by
   cases hq : s.heap.get? h'.objs.size with
   | none => rfl
   | some o => exact absurd (Heap.lt_size (hk _ _ hq)) (lt_irrefl _)
 obtain ⟨q1, q2⟩ := S.none_of_fresh hn; have S₃ := S'.frozen q1 q2 he; exact ⟨_, _, _, addP_le _ q1, S₃, .list (vs := out.toList) (n := e) (by rw [addP_self]) (vrs_ints a1), hQ ns' a2 a3⟩
noncomputable def keyAV (tp : Bool) (a b : Int) : AV := if tp then .tuple [.int a, .int b] else .int a
noncomputable def keysAV (tp : Bool) (ka kb : Nat -> Int) (n : Nat) : List AV := (List.range n).map fun i => keyAV tp (ka i) (kb i)
theorem keysAV_succ (tp : Bool) (ka kb : Nat -> Int) (n : Nat) : keysAV tp ka kb (n + 1) = keysAV tp ka kb n ++ [keyAV tp (ka n) (kb n)] := by unfold keysAV; rw [List.range_succ, map_append]; rfl
theorem keysAV_len (tp : Bool) (ka kb : Nat -> Int) (n : Nat) : (keysAV tp ka kb n).length = n := by simp [keysAV]
theorem keysAV_get {tp : Bool} {ka kb : Nat -> Int} {n i : Nat} (h : i < n) : (keysAV tp ka kb n)[i]? = some (keyAV tp (ka i) (kb i)) := by simp [keysAV, h]
theorem VRs.getD {vs : List Value} {ds : List AV} (h : VRs P vs ds) {i : Nat} {d : AV} (hd : ds[i]? = some d) : VR P (vs.getD i Value.none) d := by
 obtain ⟨v, h1, h2⟩ := h.get hd; rw [getD_eq_getElem?_getD, h1]; exact h2
theorem VRs.pick {vs : List Value} {ds : List AV} (h : VRs P vs ds) : ∀ (p : List Nat), (∀ i ∈ p, i < ds.length) -> VRs P (p.map fun i => vs.getD i Value.none) (p.map fun i => ds.getD i .none)
 | [], _ => .nil
 | i :: p, hi => by
   have h1 : i < ds.length := hi i mem_cons_self; have h2 : ds.getD i .none = ds[i] := by rw [getD_eq_getElem?_getD, getElem?_eq_getElem h1]; rfl
   rw [map_cons, map_cons, h2]; exact .cons (h.getD (getElem?_eq_getElem h1)) (h.pick p fun j hj => hi j (mem_cons_of_mem _ hj))
theorem keys_intsAre {ks : List Value} {ka kb : Nat -> Int} {n : Nat} (h : VRs P ks (keysAV false ka kb n)) : IntsAre ks ((List.range n).map ka) := by
 refine intsAre (P := P) ?_
 have e : ((List.range n).map ka).map AV.int = keysAV false ka kb n := by
   unfold keysAV keyAV; rw [map_map]; rfl
 rw [e]; exact h
theorem keys_tups {s : Shared} (hp : ∀ a o, P a = some o -> s.heap.get? a = some o) {ks : List Value} {l : List (Int × Int)} (h : VRs P ks (l.map fun p => .tuple [.int p.1, .int p.2])) : ∃ fs, KatTups s.heap ks fs /\ IntsAre fs (l.map (·.1)) := by
 induction l generalizing ks with
 | nil => obtain rfl := h.nil_inv; exact ⟨[], KatTups.nil, .nil⟩
 | cons p l ih =>
   obtain ⟨v, vs, rfl, r, h'⟩ := h.cons_inv; obtain ⟨fs, h1, h2⟩ := ih h'; obtain ⟨a, o, ws, n, rfl, ho, hc, hd, hr⟩ := r.tuple_inv; obtain ⟨x, y, rfl, hx, hy⟩ := hr.inv2; obtain ⟨t, rfl⟩ := hx.int_inv; exact ⟨.int p.1 t :: fs, KatTups.cons (hp _ _ ho) hc hd (by simp) h1, .cons _ _ h2⟩
theorem looks_ints {M : Model} {h : Heap} : ∀ {vs : List Value} {ns : List Int}, IntsAre vs ns -> ∀ v ∈ vs, Looks M h (typeOf v) (Value.type "int") := by
 intro vs ns hI v hv; obtain ⟨n, t, rfl⟩ := hI.all v hv; exact Looks.of_pure rfl
theorem key_lt {s : Shared} {x y : Value} {tp : Bool} {a b c d : Int} (hp : ∀ a o, P a = some o -> s.heap.get? a = some o) (hb : tp = false -> b = 0 /\ d = 0) (hx : VR P x (keyAV tp a b)) (hy : VR P y (keyAV tp c d)) {K : Bool -> Shared -> Prop} {E : Value -> Shared -> Prop}
   (h : K (decide (a < c \/ (a = c /\ b < d))) s) : wpAny (model C.prog C.w) A (keyLt' (if tp then tuples' true else oneType') x y) K E s := by
 cases tp with
 | false =>
   obtain ⟨rfl, rfl⟩ := hb rfl; obtain ⟨t, rfl⟩ := VR.int_inv hx; obtain ⟨u, rfl⟩ := VR.int_inv hy; refine wpAny_mono (kat_lt_int (E := E) (Q := K) ?_) (fun _ _ x => x) fun _ _ x => x; have e : decide (a < c \/ (a = c /\ (0 : Int) < 0)) = decide (a < c) := decide_eq_decide.mpr ⟨fun x => x.resolve_right fun y => absurd y.2 (by decide), .inl⟩; rwa [e] at h
 | true =>
   obtain ⟨x', ox, ws, n, rfl, ho, hc, hd, hr⟩ := VR.tuple_inv hx; obtain ⟨y', oy, us, m, rfl, go, gc, gd, gr⟩ := VR.tuple_inv hy; obtain ⟨v1, v2, rfl, h1, h2⟩ := hr.inv2; obtain ⟨w1, w2, rfl, g1, g2⟩ := gr.inv2; obtain ⟨t1, rfl⟩ := h1.int_inv; obtain ⟨t2, rfl⟩ := h2.int_inv; obtain ⟨u1, rfl⟩ := g1.int_inv; obtain ⟨u2, rfl⟩ := g2.int_inv; refine kat_lt (hp _ _ ho) hd (hp _ _ go) gd ?_; refine kat_cons (wpAny_eqBool_int ?_); refine kat_go (fun e => kat_yes ?_) (fun e => kat_no ?_)
   . refine kat_cons (wpAny_eqBool_int ?_); have e1 : a = c := by simpa using e
     refine kat_go (fun e => kat_yes ?_) (fun e => kat_no ?_)
     . refine kat_nil ?_; have e2 : b = d := by simpa using e
       have : (decide (a < c \/ (a = c /\ b < d))) = false := decide_eq_false fun x => x.elim (fun x => Int.ne_of_lt x e1) fun x => Int.ne_of_lt x.2 e2; rw [this] at h; simpa using h
     . refine kat_one _ _ ?_; refine PyProof.Rows.lt_int ?_; have e2 : decide (a < c \/ (a = c /\ b < d)) = decide (b < d) := decide_eq_decide.mpr ⟨fun x => x.elim (fun x => absurd e1 (Int.ne_of_lt x)) And.right, fun x => .inr ⟨e1, x⟩⟩; rw [e2] at h; exact h
   . refine wpAny_mono (oneLt_int (Q := K) ?_) (fun _ _ x => x) fun _ _ x => x; have e1 : a ≠ c := by simpa using e
     have e2 : decide (a < c \/ (a = c /\ b < d)) = decide (a < c) := decide_eq_decide.mpr ⟨fun x => x.resolve_right fun y => e1 y.1, .inl⟩; rwa [e2] at h
end
end
section
section
variable {C : Cx} {A : Around} {σ σ' : St} {P : Pool}
noncomputable abbrev keysTup (ka kb : Nat -> Int) (n : Nat) : List (Int × Int) := (List.range n).map fun i => (ka i, kb i)
theorem keysAV_tup (ka kb : Nat -> Int) (n : Nat) : keysAV true ka kb n = (keysTup ka kb n).map fun p => AV.tuple [.int p.1, .int p.2] := by
 unfold keysAV keysTup keyAV; rw [map_map]; rfl
theorem key_kind {s : Shared} {ks : List Value} {tp : Bool} {ka kb : Nat -> Int} {n : Nat} (hp : ∀ a o, P a = some o -> s.heap.get? a = some o) (h2 : 2 <= n) (hk : VRs P ks (keysAV tp ka kb n)) {K : SortKind -> Shared -> Prop} {E : Value -> Shared -> Prop}
   (h : K (if tp then tuples' true else oneType') s) : wpAny (model C.prog C.w) A (keyKind' ks.toArray) K E s := by
 cases tp with
 | false =>
   have hi := keys_intsAre hk; rw [ksk_kind (keys := ks.toArray) (kz := (List.range n).map ka) (by simpa using hi) (by have := hk.length; rw [keysAV_len] at this; simp; lia)]; exact wpAny_pure h
 | true =>
   rw [keysAV_tup] at hk; obtain ⟨fs, h1, h3⟩ := keys_tups hp hk; have hl : fs.length = n := by have := h3.length; simpa using this
   refine kat_kind h1 (by lia) (looks_ints h3) (by decide) ?_; exact h
theorem ksk_tree_sat {a q : Addr} {s : Shared} {vs : List Value} {ds : List AV} {nn : Nat} {tp : Bool} {ka kb : Nat -> Int} (S : Sat C P ((a, .obj (seqObj "list" vs.toArray nn)) :: σ) s) (rv : VRs P vs ds) (h64 : ds.length < 64) (hb : tp = false -> ∀ i, kb i = 0) {key : AV}
   (hq : VR P (.ref q) key) (hkey : ∀ i e τ (Q' : AV -> St -> Prop), ds[i]? = some e -> (∀ x ∈ σ, x ∈ τ) -> Q' (keyAV tp (ka i) (kb i)) τ -> CallV C A key [e] [] τ Q')
   {K : PySem.Fin -> Shared -> Prop}
   (h : ∀ P' s' (p : List Nat) (out : Array Value) c, PLe P P' -> Sat C P' ((a, .obj (seqObj "list" out c)) :: σ) s' -> p.Perm (List.range ds.length) -> p.Pairwise (kLe ka kb) -> VRs P' out.toList (p.map fun i => ds.getD i .none) -> K (.done (.ret .none)) s') :
   wpAny (model C.prog C.w) A (ksk_tree a (.ref q) false) K No s := by
 have hlen : vs.length = ds.length := rv.length; have ho : s.heap.get? a = some (seqObj "list" vs.toArray nn) := S.ents _ mem_cons_self; have ha : a < s.heap.objs.size := Heap.lt_size ho; obtain ⟨e1, ho1⟩ : ∃ e1, (s.heap.update a (Obj.mapSeq fun _ => (#[] : Array Value))).get? a = some (seqObj "list" #[] e1) := ⟨_, get?_update_seq ho fun _ => #[]⟩; have S1 := S.upd (.here (e' := .obj (seqObj "list" #[] e1))) (h' := s.heap.update a (Obj.mapSeq fun _ => (#[] : Array Value))) s.toks (fun b o hb e => ((Heap.SameBut.update s.heap a _).2 b hb).trans e) ho1; unfold ksk_tree; refine wpAny_bind (listItems_at ho rfl ?_); refine wpAny_bind (listUpdate_at ho rfl ?_ (by rw [size_toArray, sizeLine_eq]; lia) (zero_le _)); refine wpAny_bind (seqEpoch_at ho1 rfl ?_); refine wpAny_bind (wpAny_newTuple ?_ (by show vs.length <= _; rw [sizeLine_eq]; lia)); refine wpAny_bind (wpAny_newList ?_ (zero_le _)); refine wpAny_holding ?_; obtain ⟨_, S2⟩ := frozen_new (h := s.heap) S1 (o := seqObj "tuple" vs.toArray 0) rfl s.toks; have hle2 := (frozen_new (h := s.heap) S1 (o := seqObj "tuple" vs.toArray 0) rfl s.toks).1; generalize addP P _ _ = P2 at S2 hle2; generalize hh2 : ((s.heap.update a (Obj.mapSeq fun _ => (#[] : Array Value))).push (seqObj "tuple" vs.toArray 0)) = h2 at S2; have hn3 : h2.get? h2.objs.size = none := Heap.get?_none_of_le (le_refl _); have S3 := S2.new (e := .obj (seqObj "list" #[] 0)) hn3 (h' := h2.push (seqObj "list" #[] 0)) s.toks (fun b o e => Heap.get?_push_of_some _ e) (Heap.get?_push_size _ rfl); show wpAny _ _ (ksk_rest a (.ref q) false vs.toArray e1 (.ref h2.objs.size)) K No { s with heap := h2.push (seqObj "list" #[] 0) }; replace S3 : Sat C P2 ((h2.objs.size, .obj (seqObj "list" #[] 0)) :: (a, .obj (seqObj "list" #[] e1)) :: σ) { s with heap := h2.push (seqObj "list" #[] 0) } := S3; generalize h2.objs.size = kS at S3 ⊢; have rv2 := rv.mono hle2; have hq2 := hq.mono hle2; generalize ({ s with heap := h2.push (seqObj "list" #[] 0) } : Shared) = s3 at S3 ⊢; unfold ksk_rest; refine wpAny_bind (wpAny_rule ?_); rw [List.forIn_toArray]
 refine wpAny_bind (ksk_fold (fun i s' => ∃ P' kA e, PLe P2 P' /\ Sat C P' ((kS, .obj (seqObj "list" kA e)) :: (a, .obj (seqObj "list" #[] e1)) :: σ) s' /\ VRs P' kA.toList (keysAV tp ka kb i)) vs 0 s3
   ⟨P2, #[], 0, PLe.refl _, S3, .nil⟩ ?step ?done)
 case step =>
   rintro j x s' hx ⟨P', kA, e, hle, S', rk⟩; simp only [zero_add] at rk ⊢; have hj : j < vs.length := (List.getElem?_eq_some_iff.mp hx).1; obtain ⟨d, hd⟩ : ∃ d, ds[j]? = some d := ⟨_, getElem?_eq_getElem (by lia)⟩; obtain ⟨x', hx', rx⟩ := rv2.get hd; obtain rfl : x' = x := by rw [hx] at hx'; exact (Option.some.inj hx').symm
   have hz : kA.size = j := by have := rk.length; rwa [keysAV_len, Array.length_toList] at this
   have hcall := hkey j d ((kS, .obj (seqObj "list" kA e)) :: (a, .obj (seqObj "list" #[] e1)) :: σ) (fun k τ' => k = keyAV tp (ka j) (kb j) /\ τ' = (kS, .obj (seqObj "list" kA e)) :: (a, .obj (seqObj "list" #[] e1)) :: σ) hd (fun x hx => mem_cons_of_mem _ (mem_cons_of_mem _ hx)) ⟨rfl, rfl⟩
     P' s' _ [x'] [] S' (hq2.mono hle) (.cons (rx.mono hle) .nil) .nil
   refine wpAny_bind (wpAny_attempt (wpAny_mono hcall (fun v s'' he => ?_) fun _ _ hF => hF.elim)); obtain ⟨P3, k, σ3, hle3, S4, rk4, rfl, rfl⟩ := he; dsimp only; have nk : s''.heap.get? kS = some (seqObj "list" kA e) := S4.ents _ mem_cons_self
   obtain ⟨c2, hc2⟩ : ∃ c2, (s''.heap.update kS (Obj.mapSeq (·.push v))).get? kS = some (seqObj "list" (kA.push v) c2) := ⟨_, get?_update_seq nk (·.push v)⟩
   refine wpAny_bind (listUpdate_at nk rfl ?_ (by rw [sizeLine_eq]; lia) (le_trans (le_of_eq (Array.size_push ..)) (by rw [sizeLine_eq]; lia)))
   have S5 := S4.upd (.here (e' := .obj (seqObj "list" (kA.push v) c2))) (h' := s''.heap.update kS (Obj.mapSeq (·.push v))) s''.toks (fun b o hb e => ((Heap.SameBut.update s''.heap kS _).2 b hb).trans e) hc2
   refine wpAny_pure ⟨rfl, P3, kA.push v, c2, hle.trans hle3, S5, ?_⟩; rw [keysAV_succ, Array.toList_push]; exact (rk.mono hle3).append (.cons rk4 .nil)
 case done =>
   rintro s' ⟨P', kA, e, hle, S', rk⟩; simp only [zero_add, hlen] at rk; have nk : s'.heap.get? kS = some (seqObj "list" kA e) := S'.ents _ mem_cons_self
   try dsimp only
   refine wpAny_bind (listItems_at nk rfl ?_); have hkz : kA.size = ds.length := by have := rk.length; rwa [keysAV_len, Array.length_toList] at this
   have tail : ∀ (st : SortSt) (p : List Nat) s'', Sat C P' ((kS, .obj (seqObj "list" kA e)) :: (a, .obj (seqObj "list" #[] e1)) :: σ) s'' -> (arrOf st).map (·.2) = List.toArray (p.map fun i => vs.getD i Value.none) -> failedOf st = none -> p.Perm (List.range ds.length) -> p.Pairwise (kLe ka kb) ->
       wpAny (model C.prog C.w) A (ksk_tail a false e1 (.ref kS) st) K No s'' := by
     intro st p s'' S6 har hf hp1 hp2; have nk : s''.heap.get? kS = some (seqObj "list" kA e) := S6.ents _ mem_cons_self; have hpl : p.length = ds.length := by rw [hp1.length_eq, length_range]
     obtain ⟨c1, hc1⟩ : ∃ c1, (s''.heap.update kS (Obj.mapSeq fun _ => (#[] : Array Value))).get? kS = some (seqObj "list" #[] c1) := ⟨_, get?_update_seq nk fun _ => #[]⟩; have S7 := S6.upd (.here (e' := .obj (seqObj "list" #[] c1))) (h' := s''.heap.update kS (Obj.mapSeq fun _ => (#[] : Array Value))) s''.toks (fun b o hb e => ((Heap.SameBut.update s''.heap kS _).2 b hb).trans e) hc1; have na : (s''.heap.update kS (Obj.mapSeq fun _ => (#[] : Array Value))).get? a = some (seqObj "list" #[] e1) := S7.ents _ (mem_cons_of_mem _ mem_cons_self)
     obtain ⟨c2, hc2⟩ : ∃ c2, ((s''.heap.update kS (Obj.mapSeq fun _ => (#[] : Array Value))).update a (Obj.mapSeq fun _ => List.toArray (p.map fun i => vs.getD i Value.none))).get? a = some (seqObj "list" (List.toArray (p.map fun i => vs.getD i Value.none)) c2) :=
       ⟨_, get?_update_seq na fun _ => List.toArray (p.map fun i => vs.getD i Value.none)⟩
     have S8 := S7.upd (.there (.here (e' := .obj (seqObj "list" (List.toArray (p.map fun i => vs.getD i Value.none)) c2)))) (h' := (s''.heap.update kS (Obj.mapSeq fun _ => (#[] : Array Value))).update a (Obj.mapSeq fun _ => List.toArray (p.map fun i => vs.getD i Value.none))) s''.toks (fun b o hb e => ((Heap.SameBut.update (s''.heap.update kS (Obj.mapSeq fun _ => (#[] : Array Value))) a _).2 b hb).trans e) hc2; unfold ksk_tail; dsimp only; rw [har]; simp only [Bool.false_eq_true, if_false]; refine wpAny_bind (listUpdate_at nk rfl ?_ (by rw [sizeLine_eq]; lia) (zero_le _)); refine wpAny_bind (wpAny_letGo ?_); refine wpAny_bind (seqEpoch_at na rfl ?_); refine wpAny_bind (listUpdate_at na rfl ?_ (zero_le _) (by rw [size_toArray, length_map, sizeLine_eq]; lia)); rw [hf]; simp only [bne_self_eq_false, Bool.false_eq_true, if_false]; refine wpAny_pure (h P' _ p _ c2 (hle2.trans hle) (S8.sub (sublist_cons_self _ _)) hp1 hp2 ?_); exact (rv2.mono hle).pick p fun i hi => List.mem_range.mp (hp1.mem_iff.mp hi)
   have hzs : (kA.zip vs.toArray).size = ds.length := by rw [Array.size_zip, hkz, size_toArray, hlen, Nat.min_self]
   have hks : kA.toList.length = vs.length := by rw [Array.length_toList, hkz, hlen]
   have hkA : kA = kA.toList.toArray := by simp
   unfold ksk_end; dsimp only; simp only [Bool.false_eq_true, if_false]; by_cases h2' : vs.toArray.size < 2
   . rw [if_pos h2', if_pos h2']; refine wpAny_bind (wpAny_pure ?_); rw [StateT.run_pure]; refine wpAny_bind (wpAny_pure ?_); dsimp only; rw [size_toArray] at h2'; refine tail _ (List.range ds.length) s' S' ?_ rfl (List.Perm.refl _) ?_
     . show (kA.zip vs.toArray).map (·.2) = _
       apply Array.toList_inj.mp; rw [hkA, Array.toList_map]; have e1 : (kA.toList.toArray.zip vs.toArray).toList = kA.toList.zip vs := by simp
       rw [e1, List.map_snd_zip (by lia), <- hlen]; apply List.ext_getElem?; intro i; by_cases hi : i < vs.length
       . simp [hi]
       . simp [hi]
     . have : ds.length = 0 \/ ds.length = 1 := by lia
       rcases this with e | e <;> rw [e]
       . exact List.Pairwise.nil
       . exact List.pairwise_singleton _ _
   . rw [if_neg h2', if_neg h2']; rw [size_toArray] at h2'; rw [hkA]; refine wpAny_bind (key_kind (tp := tp) (ka := ka) (kb := kb) (n := ds.length) S'.pool (by lia) rk ?_)
     refine wpAny_bind (wpAny_mono (kat_run (A := A) (Q := fun st' s'' => ∃ p : Array Nat, p = kRun (ansOf ka kb) (kas_sort vs.length) /\ arrOf st' = p.map (kas_item (kA.toList.toArray.zip vs.toArray)) /\ failedOf st' = none /\ Sat C P' ((kS, .obj (seqObj "list" kA e)) :: (a, .obj (seqObj "list" #[] e1)) :: σ) s'')
       (G := fun p s'' => p = kRun (ansOf ka kb) (kas_sort vs.length) /\ Sat C P' ((kS, .obj (seqObj "list" kA e)) :: (a, .obj (seqObj "list" #[] e1)) :: σ) s'') hks (by lia) (by lia) (fun p st' s'' a1 a2 a3 a4 => ⟨p, a4.1, a2, a3, a4.2⟩) ?_) ?_ fun _ _ x => x)
     . have hans : ∀ i j, i < vs.length -> j < vs.length -> ∀ (K' : Bool -> Shared -> Prop) s'', Sat C P' ((kS, .obj (seqObj "list" kA e)) :: (a, .obj (seqObj "list" #[] e1)) :: σ) s'' -> K' (ansOf ka kb i j) s'' -> kas_ask C.prog C.w A (if tp then tuples' true else oneType') kA.toList i j K' s'' := by
         intro i j hi hj K' s'' S6 hk; exact key_lt S6.pool (fun e => ⟨hb e i, hb e j⟩) (rk.getD (keysAV_get (by lia))) (rk.getD (keysAV_get (by lia))) hk
       exact kRun_in hans (kas_sort vs.length) (sort_asks (by lia)) s' S' fun s'' S6 => ⟨rfl, S6⟩
     . rintro ⟨⟨⟩, st'⟩ s'' ⟨p, rfl, har, hf, S6⟩; dsimp only; have hr := sort_run (a := ka) (b := kb) (n := vs.length) (by lia); refine tail st' _ s'' S6 (kat_snds hks har) hf ?_ hr.2; rw [<- hlen]; exact hr.1
theorem cv_sorted_key {d key : AV} {ds : List AV} {tp : Bool} {ka kb : Nat -> Int} (hc : Coll C A.in1 d ds σ) (h64 : ds.length < 64) (hb : tp = false -> ∀ i, kb i = 0) (hf : ∃ fd, key = .fn fd)
   (hkey : ∀ i e τ (Q' : AV -> St -> Prop), ds[i]? = some e -> (∀ x ∈ σ, x ∈ τ) -> Q' (keyAV tp (ka i) (kb i)) τ -> CallV C A.in1.in1 key [e] [] τ Q')
   (hQ : ∀ p : List Nat, p.Perm (List.range ds.length) -> p.Pairwise (kLe ka kb) -> Q (.list (p.map fun i => ds.getD i .none)) σ) : CallV C A (.val (.builtin "sorted")) [d] [(("key" : Str), key)] σ Q := by
 obtain ⟨fd, rfl⟩ := hf; rintro P s _ _ _ S (_ | _) (_ | ⟨r, (_ | _)⟩) (_ | ⟨rk, (_ | _)⟩)
 cases rk with
 | @fn q oq _ hoq hdq hcq =>
 have rk : VR P (.ref q) (.fn fd) := .fn hoq hdq hcq; refine call_function_entry_kw kind_sorted plain_sorted entry_sorted (ksk_s1 _ _) ?_; unfold Builtin.«sorted»; refine wpAny_bind (m := checkCount "sorted" 1 1 _) (wpAny_pure ?_); refine wpAny_bind (hc P s _ _ S r fun h' tk vs hk rv => ?_); have hlen : vs.length = ds.length := rv.length; refine wpAny_bind (wpAny_newList ?_ (by rw [sizeLine_eq]; lia)); show wpAny _ _ _ _ _ { s with heap := h'.push (seqObj "list" vs.toArray 0), toks := tk }; have hoL : (h'.push (seqObj "list" vs.toArray 0)).get? h'.objs.size = some (seqObj "list" vs.toArray 0) := Heap.get?_push_size _ rfl
 have hn : s.heap.get? h'.objs.size = none := by
   cases hq : s.heap.get? h'.objs.size with
   | none => rfl
   | some o => exact absurd (Heap.lt_size (hk _ _ hq)) (lt_irrefl _)
 have S1 := S.new (e := .obj (seqObj "list" vs.toArray 0)) hn (h' := h'.push (seqObj "list" vs.toArray 0)) tk (fun b o e => Heap.get?_push_of_some _ (hk _ _ e)) hoL; refine wpAny_bind (wpAny_holding (wpAny_call_entry_kw slot_list_sort ⟨_, hoL, rfl⟩ entry_list_sort ?body (ksk_l1 _ _))); show wpAny (model C.prog C.w) A.in1.in1 (Builtin.«list.sort» ⟨[.ref h'.objs.size], [(Str.ofString "key", .ref q)]⟩) _ _ _; rw [ksk_t1]; refine ksk_tree_sat S1 rv h64 hb rk hkey fun P' s' p out c hle S' hp1 hp2 ro => ⟨_, rfl, ?_⟩; refine wpAny_pure ⟨_, rfl, ?_⟩; have he : s'.heap.get? h'.objs.size = some (seqObj "list" out c) := S'.ents _ mem_cons_self; have h1 := S'.off _ mem_cons_self; have hnd := S'.nd; rw [map_cons] at hnd; have S2 := (S'.sub (sublist_cons_self _ _)).frozen h1 (List.nodup_cons.mp hnd).1 he; have hl2 := addP_le (seqObj "list" out c) h1; exact ⟨_, _, _, hle.trans hl2, S2, .list (vs := out.toList) (n := c) (by rw [addP_self]) (ro.mono hl2), hQ p hp1 hp2⟩
end
end
section
open PyProof.Rows.TI (gone gone_get gone_none gone_some)
noncomputable def nsA : St -> List Addr
 | [] => []
 | (a, .ns _) :: σ => a :: nsA σ
 | _ :: σ => nsA σ
theorem nsA_mem {L : Addr} {m : List (Str × Option AV)} : ∀ {σ : St}, (L, AEnt.ns m) ∈ σ -> L ∈ nsA σ
 | (a, .ns m') :: σ, h => by
   rcases List.mem_cons.mp h with e | h
   . cases e; exact mem_cons_self
   . exact mem_cons_of_mem _ (nsA_mem h)
 | (a, .cell _) :: σ, h => by rcases List.mem_cons.mp h with e | h; cases e; exact nsA_mem (σ := σ) h
 | (a, .list _) :: σ, h => by rcases List.mem_cons.mp h with e | h; cases e; exact nsA_mem (σ := σ) h
 | (a, .wlist _) :: σ, h => by rcases List.mem_cons.mp h with e | h; cases e; exact nsA_mem (σ := σ) h
 | (a, .dict _) :: σ, h => by rcases List.mem_cons.mp h with e | h; cases e; exact nsA_mem (σ := σ) h
 | (a, .obj _) :: σ, h => by rcases List.mem_cons.mp h with e | h; cases e; exact nsA_mem (σ := σ) h
 | (a, .tab _) :: σ, h => by rcases List.mem_cons.mp h with e | h; cases e; exact nsA_mem (σ := σ) h
theorem nsA_of {L : Addr} : ∀ {σ : St}, L ∈ nsA σ -> ∃ m, (L, AEnt.ns m) ∈ σ
 | (a, .ns m') :: σ, h => by
   rcases List.mem_cons.mp h with e | h
   . rw [e]; exact ⟨m', mem_cons_self⟩
   . obtain ⟨m, hm⟩ := nsA_of h; exact ⟨m, mem_cons_of_mem _ hm⟩
 | (a, .cell _) :: σ, h => let ⟨m, hm⟩ := nsA_of (σ := σ) h; ⟨m, mem_cons_of_mem _ hm⟩
 | (a, .list _) :: σ, h => let ⟨m, hm⟩ := nsA_of (σ := σ) h; ⟨m, mem_cons_of_mem _ hm⟩
 | (a, .wlist _) :: σ, h => let ⟨m, hm⟩ := nsA_of (σ := σ) h; ⟨m, mem_cons_of_mem _ hm⟩
 | (a, .dict _) :: σ, h => let ⟨m, hm⟩ := nsA_of (σ := σ) h; ⟨m, mem_cons_of_mem _ hm⟩
 | (a, .obj _) :: σ, h => let ⟨m, hm⟩ := nsA_of (σ := σ) h; ⟨m, mem_cons_of_mem _ hm⟩
 | (a, .tab _) :: σ, h => let ⟨m, hm⟩ := nsA_of (σ := σ) h; ⟨m, mem_cons_of_mem _ hm⟩
noncomputable def FrsIn (l : List Env) (σ : St) : Prop := ∀ env ∈ l, env.scope.kind = .function /\ ∃ L m, env.frame = some L /\ (L, AEnt.ns m) ∈ σ
theorem FrsIn.funFrames {C : Cx} {P : Pool} {σ : St} {s : Shared} (S : Sat C P σ s) {base : Heap} (hb : ∀ L ∈ nsA σ, base.get? L = none) : ∀ {l : List Env}, FrsIn l σ -> s.heap.FunFrames base l
 | [], _ => trivial
 | env :: l, h => by
   obtain ⟨hk, L, m, hf, hm⟩ := h env mem_cons_self; obtain ⟨_, m', ⟨o, es, ep, ho, hd, _⟩, _⟩ := S.ents _ hm; exact ⟨by rw [hk]; decide, ⟨L, o, hf, hb L (nsA_mem hm), ho, fun vs e => by rw [hd] at e; cases e⟩, FrsIn.funFrames S hb fun e he => h e (mem_cons_of_mem _ he)⟩
noncomputable def Bs (base : Heap) (P : Pool) (σ : St) (h : Heap) : Prop := (∀ a o, P a = some o -> base.get? a = some o) /\ ∀ p ∈ σ, (∃ m, p.2 = AEnt.ns m) \/ ∀ o, h.get? p.1 = some o -> base.get? p.1 = some o
theorem bs_gone {C : Cx} {P : Pool} {σ : St} {s : Shared} (S : Sat C P σ s) : Bs (gone s.heap (nsA σ)) P σ s.heap := by
 refine ⟨fun a o e => ?_, fun p hp => ?_⟩
 . rw [gone_get fun hm => ?_]
   . exact S.pool _ _ e
   . obtain ⟨m, hm⟩ := nsA_of hm; have := S.off _ hm; rw [e] at this; cases this
 . obtain ⟨a, en⟩ := p
   cases en with
   | ns m => exact .inl ⟨m, rfl⟩
   | _ =>
     right; intro o ho; rw [gone_get fun hm => ?_]
     . exact ho
     . obtain ⟨m, hm⟩ := nsA_of hm; have hnd := S.nd; have := pair_nodup hnd hp hm; cases this
where
 pair_nodup {α β : Type} : ∀ {l : List (α × β)} {a : α} {b c : β}, (l.map (·.1)).Nodup -> (a, b) ∈ l -> (a, c) ∈ l -> b = c
   | (x, y) :: l, a, b, c, nd, h1, h2 => by
     rw [map_cons, nodup_cons] at nd; rcases List.mem_cons.mp h1 with e1 | h1 <;> rcases List.mem_cons.mp h2 with e2 | h2
     . cases e1; cases e2; rfl
     . cases e1; exact absurd (mem_map_of_mem (f := (·.1)) h2) nd.1
     . cases e2; exact absurd (mem_map_of_mem (f := (·.1)) h1) nd.1
     . exact pair_nodup nd.2 h1 h2
theorem Sat.fly {C : Cx} {P : Pool} {σ : St} {s : Shared} (S : Sat C P σ s) {base h' : Heap} (hb : Bs base P σ s.heap) (hk : base.StaysIn h') (hu : s.heap.UpToSlots h') : Sat C P σ { s with heap := h' } /\ Bs base P σ h' := by
 have key : ∀ p ∈ σ, (∃ m, p.2 = AEnt.ns m) \/ ∀ o, s.heap.get? p.1 = some o -> h'.get? p.1 = some o := fun p hp => by
   rcases hb.2 p hp with h | h
   . exact .inl h
   . exact .inr fun o ho => hk _ _ (h o ho)
 refine ⟨⟨S.base, fun a o e => hk _ _ (hb.1 a o e), S.off, fun p hp => ?_, S.nd, S.os, S.gens⟩, hb.1, fun p hp => ?_⟩
 . rcases key p hp with ⟨m, e⟩ | h
   . obtain ⟨a, en⟩ := p; dsimp only at e; subst e; obtain ⟨nd, m', h1, h2⟩ := S.ents _ hp; exact ⟨nd, m', Heap.UpToSlots.ns hu h1, h2⟩
   . exact (S.ents p hp).keep h
 . rcases hb.2 p hp with h | h
   . exact .inl h
   . right; intro o ho; obtain ⟨o', ho'⟩ := (S.ents p hp).get; have e1 := h o' ho'; have e2 := hk _ _ e1; rw [e2] at ho; cases ho; exact e1
noncomputable def Flown (C : Cx) (l : List Env) (P : Pool) (σ : St) (msg : Str) (e : Value) (s' : Shared) : Prop :=
 ∃ base a t k, e = .ref a /\ Heap.FlyingW base l a (.type "ValueError") (.ref t) s'.heap /\ s'.heap.TupAt t [.str msg k] /\ base.get? t = none /\ Sat C P σ s' /\ Bs base P σ s'.heap
noncomputable def Made (C : Cx) (P : Pool) (σ : St) (msg : Str) (e : Value) (s' : Shared) : Prop :=
 ∃ s₁ h' a k, e = .ref a /\ s' = { s₁ with heap := h' } /\ Sat C P σ s₁ /\ Heap.MadeExc s₁.heap h' a "ValueError" [.str msg k]
section
variable {C : Cx} {A : Around} {σ σ' : St} {P : Pool} {env : Env} {l : List Env} {msg : Str} {e : Value} {s' : Shared} {L : Addr} {m : List (Str × Option AV)}
theorem Flown.drop {p : Addr × AEnt} (h : Flown C l P (p :: σ) msg e s') : Flown C l P σ msg e s' := by
 obtain ⟨base, a, t, k, rfl, f1, f2, f3, S, hb⟩ := h; exact ⟨base, a, t, k, rfl, f1, f2, f3, S.sub (sublist_cons_self _ _), hb.1, fun q hq => hb.2 q (mem_cons_of_mem _ hq)⟩
theorem leave_made (hfr : A.frames = some (env :: l)) (hf : env.frame = some L) (hF : FrsIn (env :: l) σ) (h : Made C P σ msg e s') : wpAny (model C.prog C.w) A (leaving env e) (fun _ s'' => Flown C l P σ msg e s'') No s' := by
 obtain ⟨s₁, h', a, k, rfl, rfl, S, hm⟩ := h; have hk : (gone s₁.heap (nsA σ)).StaysIn s₁.heap := fun b o e => (gone_some e).2; refine wpAny_leaves_madeW (base := gone s₁.heap (nsA σ)) (h := s₁.heap) (cls := .type "ValueError") (args := [.str msg k]) hfr hf hk (FrsIn.funFrames S (fun b hb => gone_none hb) hF) hm.of fun h'' t f1 f2 f3 f4 => ?_; have S' : Sat C P σ { s₁ with heap := h' } := S.heap s₁.toks hm.keeps
 have hb' : Bs (gone s₁.heap (nsA σ)) P σ h' := by
   have hb := bs_gone S; refine ⟨hb.1, fun p hp => ?_⟩; rcases hb.2 p hp with h | h
   . exact .inl h
   . right; intro o ho; obtain ⟨o', ho'⟩ := (S.ents p hp).get; have := hm.keeps p.1 o' ho'; rw [this] at ho; cases ho; exact h _ ho'
 obtain ⟨S2, hb2⟩ := S'.fly hb' f1.1 f4; exact ⟨_, a, t, k, rfl, f1, f2, f3, S2, hb2⟩
theorem leave_flown (hfr : A.frames = some (env :: l)) (hf : env.frame = some L) (h : Flown C (env :: l) P σ msg e s') : wpAny (model C.prog C.w) A (leaving env e) (fun _ s'' => Flown C l P σ msg e s'') No s' := by
 obtain ⟨base, a, t, k, rfl, f1, f2, f3, S, hb⟩ := h; refine wpAny_leaves_onW hfr hf f1 fun h' g1 g2 => ?_; obtain ⟨S2, hb2⟩ := S.fly hb g1.1 g2; exact ⟨base, a, t, k, rfl, g1, f2.of_slots g2, f3, S2, hb2⟩
noncomputable def CallR (C : Cx) (A : Around) (l : List Env) (f : AV) (ds : List AV) (ks : List (Str × AV)) (σ : St) (msg : Str) : Prop :=
 ∀ P s v vs kvs, Sat C P σ s -> VR P v f -> VRs P vs ds -> VRk P kvs ks -> wpAny (model C.prog C.w) A (call v vs kvs) (fun _ _ => False) (fun e s' => ∃ P', PLe P P' /\ Flown C l P' σ msg e s') s
noncomputable def BodyR (C : Cx) (A : Around) (l : List Env) (t : Sem Flow) (σ : St) (msg : Str) : Prop :=
 ∀ P s, Sat C P σ s -> wpAny (model C.prog C.w) A t (fun _ _ => False) (fun e s' => ∃ P', PLe P P' /\ (Made C P' σ msg e s' \/ Flown C l P' σ msg e s')) s
theorem callR_def {glob : List (Str × AV)} {fd : FuncData} {body : List PySem.Stmt} {ds : List AV} {ks : List (Str × AV)} {binds : List (Str × AV)} {m0 : List (Str × Option AV)} {n : Nat} (G : Gl C glob) (hA : AOk (n + 1) A)
   (hfr : A.frames = some l) (hF : FrsIn l σ)
   (hbody : fd.body = .stmts body) (sc : ScopeOk fd.scope) (hcell : ∀ x ∈ fd.scope.names, x.2 ≠ .cell) (hg : fd.globals = mainGlobals) (hb : fd.builtins = builtinsNs) (hclo : fd.closure = [])
   (hbind : BindsA C fd ds ks binds) (hloc : ∀ x ∈ binds, (x.1, .local) ∈ fd.scope.names) (hbn : (binds.map (·.1)).Nodup) (hm0 : (m0.map (·.1)).Nodup) (hm : ∀ x av, (x, some av) ∈ m0 -> (x, av) ∈ binds)
   (h : ∀ L A' env, AOk n A' -> A'.frames = some (env :: l) -> EnvIs env L fd.scope.names [] -> FrsIn (env :: l) ((L, .ns m0) :: σ) -> BodyR C A' (env :: l) (execs body env) ((L, .ns m0) :: σ) msg) : CallR C A l (.fn fd) ds ks σ msg := by
 intro P s v vs kvs S r rs rk; obtain ⟨a, o, rfl, ho, hd, hcd⟩ := r.fn_inv; obtain ⟨c, oc, ovs, t, e1, e2, e3, e4⟩ := hcd; obtain ⟨bv, hbt, rb⟩ := hbind P s vs kvs S.base S.pool rs rk
 have hkl : ∀ x ∈ bv, fd.scope.names.lookup x.1 = some .local := fun x hx => by
   have h1 : x.1 ∈ binds.map (·.1) := rb.keys ▸ mem_map_of_mem (f := (·.1)) hx
   obtain ⟨y, hy, e⟩ := List.mem_map.mp h1; exact lookup_of_mem sc.nd (e ▸ hloc y hy)
 refine wpAny_call (codeAny_call_def (fd := fd) hA.room (S.pool _ _ ho) hd (G.nolimit _ S.old) ⟨c, oc, ovs, t, e1, S.pool _ _ e2, e3, e4⟩ hbody hbt hcell hkl (fun h₁ hns hk => ?_) sc.co sc.gen sc.kind); have S₁ := sat_frame (L := s.heap.objs.size) S (s.toks + bv.length) (Heap.get?_none_of_le (le_refl _)) hns hk rb hbn hm0 hm; have hE : EnvIs (callEnv fd s.heap.objs.size a) s.heap.objs.size fd.scope.names [] := envIs_of sc.kind rfl sc.nd sc.nodbg sc.nocls rfl hg hb (fun x c hc => nomatch hc); have hfr' := Around.frames_deeper (env := callEnv fd s.heap.objs.size a) hfr
 have hF' : FrsIn (callEnv fd s.heap.objs.size a :: l) ((s.heap.objs.size, .ns m0) :: σ) := fun env he => by
   rcases List.mem_cons.mp he with rfl | he
   . exact ⟨sc.kind, _, m0, rfl, mem_cons_self⟩
   . obtain ⟨q1, L, m, q2, q3⟩ := hF env he; exact ⟨q1, L, m, q2, mem_cons_of_mem _ q3⟩
 refine wpAny_mono (h _ _ _ (hA.deeper _) hfr' hE hF' P _ S₁) (fun _ _ x => x.elim) fun e s' hzz => ?_; obtain ⟨P', hle, hx⟩ := hzz; rcases hx with hx | hx
 . exact wpAny_mono (leave_made hfr' rfl hF' hx) (fun _ s'' x => ⟨P', hle, x.drop⟩) fun _ _ x => x.elim
 . exact wpAny_mono (leave_flown hfr' rfl hx) (fun _ s'' x => ⟨P', hle, x.drop⟩) fun _ _ x => x.elim
theorem exsR_cons {st : PySem.Stmt} {rest : List PySem.Stmt} (h : BodyR C A l (exec st env) σ msg) : BodyR C A l (execs (st :: rest) env) σ msg :=
 fun P s S => wpAny_execs_cons (wpAny_mono (h P s S) (fun _ _ x => x.elim) fun _ _ x => x)
theorem exR_if {test : Expr} {body orelse : List PySem.Stmt} {pos : Pos} (h : Eb C A (isTrue test env (eval test env)) σ fun b σ₁ => σ₁ = σ /\ if b then BodyR C A l (execs body env) σ msg else BodyR C A l (execs orelse env) σ msg) :
   BodyR C A l (exec (.If test body orelse pos) env) σ msg := by
 intro P s S; refine wpAny_If (h.run S fun P₁ v b σ₁ s₁ l₁ S₁ r₁ hzz => ?_); obtain ⟨e, q₁⟩ := hzz; subst e; cases r₁
 cases v with
 | true => exact wpAny_mono ((by simpa using q₁ : BodyR C A l (execs body env) σ₁ msg) P₁ s₁ S₁) (fun _ _ x => x) fun _ _ hzz => by obtain ⟨P', q, x⟩ := hzz; exact ⟨P', l₁.trans q, x⟩
 | false => exact wpAny_mono ((by simpa using q₁ : BodyR C A l (execs orelse env) σ₁ msg) P₁ s₁ S₁) (fun _ _ x => x) fun _ _ hzz => by obtain ⟨P', q, x⟩ := hzz; exact ⟨P', l₁.trans q, x⟩
noncomputable def EvR (C : Cx) (A : Around) (l : List Env) (t : Sem Value) (σ : St) (msg : Str) : Prop :=
 ∀ P s, Sat C P σ s -> wpAny (model C.prog C.w) A t (fun _ _ => False) (fun e s' => ∃ P', PLe P P' /\ Flown C l P' σ msg e s') s
theorem exR_assign {t value : Expr} {pos : Pos} (h : EvR C A l (eval value env) σ msg) (hs : swapsWithSole [t] value pos.line env = pure false) (hw : swappedStores [t] value env = pure none) : BodyR C A l (exec (.Assign [t] value pos) env) σ msg :=
 fun P s S => wpAny_Assign_stores (wpAny_mono (h P s S) (fun _ _ x => x.elim) fun _ _ hzz => by obtain ⟨P', q, x⟩ := hzz; exact ⟨P', q, .inr x⟩) hs hw
theorem exR_expr {ex : Expr} {pos : Pos} {names : List (Str × NameKind)} {cells : List (Str × Addr)} (h : EvR C A l (eval ex env) σ msg) (hE : EnvIs env L names cells) (hs : swapsWith ex none pos.line env = pure false) : BodyR C A l (exec (.Expr ex pos) env) σ msg := by
 intro P s S
 have hi : interactive env = false := by
   unfold interactive; rw [hE.kind]; rfl
 exact wpAny_Expr (wpAny_mono (h P s S) (fun _ _ x => x.elim) fun _ _ hzz => by obtain ⟨P', q, x⟩ := hzz; exact ⟨P', q, .inr x⟩) hi hs
theorem exR_raise {x : Str} {np cpos pos : Pos} {k : Nat} {sp : Pos} {cells : List (Str × Addr)} {names : List (Str × NameKind)} (hA : A.handled = none) (hE : EnvIs env L names cells) (hk : (x, .globalImplicit) ∈ names) (hg : GN C x (.val (.type "ValueError"))) :
   BodyR C A l (exec (.Raise (some (.Call (.Name x np) [.Constant (.str msg) k sp] [] cpos)) none pos) env) σ msg := by
 intro P s S; refine Raise_madeB PySem.F.excCall_ValueError PySem.F.excRaise_ValueError hA ((name_gn (Q := fun d σ' => d = .val (.type "ValueError") /\ σ' = σ) hE hk hg ⟨rfl, rfl⟩).run S fun P₁ v b σ₁ s₁ l₁ S₁ r₁ hzz => ?_); obtain ⟨e1, e2⟩ := hzz; subst e1; subst e2; obtain rfl := r₁.val_inv; refine ⟨rfl, ?_⟩; refine (args_cons (Q := fun ds σ' => ds = [.str msg] /\ σ' = σ₁) (const_str (args_nil ⟨rfl, rfl⟩)) rfl).run S₁ fun P₂ vs ds σ₂ s₂ l₂ S₂ r₂ hzz => ?_; obtain ⟨e1, e2⟩ := hzz; subst e1; subst e2; obtain _ | ⟨h1, h2⟩ := r₂; obtain _ | _ := h2
 cases h1 with
 | str _ t =>
 refine ⟨szle rfl, fun h' e hm => ⟨P₂, l₁.trans l₂, .inl ⟨s₂, h', e, t, rfl, rfl, S₂, hm⟩⟩⟩
theorem evR_call {func : Expr} {args : List Expr} {kws : List Keyword} {pos : Pos}
   (h : Ev C A (eval func env) σ fun f σ₁ => ∃ fd, f = .fn fd /\ Evs C A (spliced (backTo pos (starEach args env))) σ₁ fun ds σ₂ => Evs C A (evalAll ((backToKw pos (keywordEach kws env)).map (·.2))) σ₂ fun ks σ₃ =>
     σ₃ = σ /\ CallR C A l f ds (((backToKw pos (keywordEach kws env)).filterMap (·.1)).zip ks) σ msg)
   (he : eval (.Call func args kws pos) env = (do callWith pos (<- eval func env) [] (backTo pos (starEach args env)) (backToKw pos (keywordEach kws env))))
   (hk' : (backToKw pos (keywordEach kws env)).all (·.1.isSome) = true)
   (hb : ∃ x rest, backTo pos (starEach args env) = (false, x) :: rest) : EvR C A l (eval (.Call func args kws pos) env) σ msg := by
 intro P s S; rw [he]; refine wpAny_bind (h.run S fun P₁ v₁ f σ₁ s₁ l₁ S₁ r₁ q₁ => ?_); obtain ⟨fd, rfl, q₁⟩ := q₁; have r₁' := r₁; obtain ⟨a, o, rfl, ho, hd, hcd⟩ := r₁.fn_inv; obtain ⟨x, rest, e⟩ := hb; refine PySem.callWith_function_kw (o := o) (fd := fd) ?_; rw [e]; refine PySem.evalArgs_kw hk' ?_; rw [<- e]; refine q₁.run S₁ fun P₂ vs ds σ₂ s₂ l₂ S₂ r₂ q₂ => q₂.run S₂ fun P₃ ks es σ₃ s₃ l₃ S₃ r₃ q₃ => ?_; obtain ⟨e3, q₃⟩ := q₃; subst e3; refine ⟨⟨S₃.pool _ _ (l₃ _ _ (l₂ _ _ ho)), hd⟩, ?_⟩; exact wpAny_mono (q₃ P₃ s₃ _ _ _ S₃ (r₁'.mono (l₂.trans l₃)) (r₂.mono l₃) (VRk.zip _ r₃)) (fun _ _ x => x) fun _ _ hzz => by obtain ⟨P', q, x⟩ := hzz; exact ⟨P', ((l₁.trans l₂).trans l₃).trans q, x⟩
end
end
section
theorem seek_binds_3k {C : Cx} {fd : FuncData} (hp : SeekP fd.params) (hs : SeekD C fd) {a x lo key : AV} : BindsA C fd [a, x, lo] [("key", key)] [("a", a), ("x", x), ("lo", lo), ("hi", .none), ("key", key)] := by
 intro P s vs kvs hP hpool rs rk; obtain _ | @⟨_, vk, _, _, _, rkey, _ | _⟩ := rk; obtain ⟨_, _, _, _, _, _, _, _, _, _, _, _, _, _, _⟩ := fd; obtain ⟨p1, p2, p3, p4, p5, kd, df, e⟩ := hp; obtain ⟨⟨T, o, n, t, d1, d2, d3⟩, D, m, k1, k2, k3⟩ := hs; dsimp only at e d1 k1; subst e d1 k1; obtain ⟨va, vx, vlo, rfl, ra, rx, rlo⟩ := rs.inv3; refine ⟨[("a", va), ("x", vx), ("lo", vlo), ("hi", .none), ("key", vk)], fun M A E Q q => ?_, .cons ra (.cons rx (.cons rlo (.cons .none (.cons rkey .nil))))⟩; refine wpAny_bind (m := seqItems? (.ref T)) (wpAny_seqItems (hpool _ _ (hP _ _ d2)) d3 ?_); exact wpAny_of_eq (a := ([("a", va), ("x", vx), ("lo", vlo), ("hi", .none), ("key", vk)] : List (Str × Value))) rfl q
noncomputable abbrev loMsg : Str := "lo must be non-negative"
section
variable {C : Cx} {A : Around} {σ σ' : St} {P : Pool} {env : Env} {l : List Env} {msg : Str} {L : Addr} (X : Wd C)
include X in
theorem bis_raise {fd : FuncData} {params : Arguments} {sc : Scope} {rest : List PySem.Stmt} {p1 p2 p3 p4 p5 p6 p7 p8 : Pos} {k1 k2 : Nat} (hf : DefFd fd params (.If (.Compare (.Name "lo" p1) [.Lt] [.Constant (.int 0) k1 p2] p3) [.Raise (some (.Call (.Name "ValueError" p4) [.Constant (.str loMsg) k2 p5] [] p6)) none p7] [] p8 :: rest) sc)
   (hsc : defB sc ["a", "x", "lo", "hi", "key"] ["mid"] = true) (hve : (("ValueError" : Str), NameKind.globalImplicit) ∈ sc.names) {n : Nat} (hA : AOk (n + 1) A) (hfr : A.frames = some l) (hF : FrsIn l σ) {ds : List AV} {ks : List (Str × AV)} {a x hi key : AV} {lo : Int} (hlo : lo < 0)
   (hb : BindsA C fd ds ks [("a", a), ("x", x), ("lo", .int lo), ("hi", hi), ("key", key)]) : CallR C A l (.fn fd) ds ks σ loMsg := by
 obtain ⟨f1, f2, f3, f4, f5, f6⟩ := hf; obtain ⟨s1, s2, s3⟩ := scope_seek sc hsc; refine callR_def (m0 := [("a", some a), ("x", some x), ("lo", some (.int lo)), ("hi", some hi), ("key", some key), ("mid", none)]) X.G hA hfr hF f1 (f3 ▸ s1) (f3 ▸ s2) f4 f5 f6 hb ?_ (show (["a", "x", "lo", "hi", "key"] : List Str).Nodup by decide) (show (["a", "x", "lo", "hi", "key", "mid"] : List Str).Nodup by decide) ?_ (f3 ▸ fun L A' env h1 h2 h3 h4 => ?_)
 . intro y hy; rw [f3]; refine s3 _ ?_
   have := mem_map_of_mem (f := (·.1)) hy
   exact this
 . intro y av hy; simp only [mem_cons, Prod.mk.injEq, not_mem_nil, or_false, Option.some.injEq] at hy ⊢; rcases hy with ⟨h1, h2⟩ | ⟨h1, h2⟩ | ⟨h1, h2⟩ | ⟨h1, h2⟩ | ⟨h1, h2⟩ | ⟨h1, h2⟩
   . exact .inl ⟨h1, h2⟩
   . exact .inr (.inl ⟨h1, h2⟩)
   . exact .inr (.inr (.inl ⟨h1, h2⟩))
   . exact .inr (.inr (.inr (.inl ⟨h1, h2⟩)))
   . exact .inr (.inr (.inr (.inr ⟨h1, h2⟩)))
   . cases h2
 . refine exsR_cons (exR_if ?_); walk_at "e"; refine name_loc h3 (s3 _ (by walk_at "m")) (by walk_at "m") (by walk_at "m") ?_; walk_at "e"; refine cmp_lt ⟨_, rfl, rfl, ?_⟩; refine if_t (by simpa using hlo) ?_; exact exsR_cons (exR_raise h1.handled h3 hve X.g_ValueError)
theorem bisL_raise (hs : SeekD C X.bisL) {n : Nat} (hA : AOk (n + 1) A) (hfr : A.frames = some l) (hF : FrsIn l σ) {a x key : AV} {lo : Int} (hlo : lo < 0) : CallR C A l (.fn X.bisL) [a, x, .int lo] [("key", key)] σ loMsg := by
 have hf' : DefFd X.bisL _ _ _ := X.d_bisL; have hp2 := hf'.params; have hP : SeekP X.bisL.params := by rw [hp2]; exact ⟨_, _, _, _, _, _, _, rfl⟩
 exact bis_raise X hf' (by decide) (by decide) hA hfr hF hlo (seek_binds_3k hP hs)
theorem bisR_raise (hs : SeekD C X.bisR) {n : Nat} (hA : AOk (n + 1) A) (hfr : A.frames = some l) (hF : FrsIn l σ) {a x key : AV} {lo : Int} (hlo : lo < 0) : CallR C A l (.fn X.bisR) [a, x, .int lo] [("key", key)] σ loMsg := by
 have hf' : DefFd X.bisR _ _ _ := X.d_bisR; have hp2 := hf'.params; have hP : SeekP X.bisR.params := by rw [hp2]; exact ⟨_, _, _, _, _, _, _, rfl⟩
 exact bis_raise X hf' (by decide) (by decide) hA hfr hF hlo (seek_binds_3k hP hs)
theorem bisL_raise4 (hs : SeekD C X.bisL) {n : Nat} (hA : AOk (n + 1) A) (hfr : A.frames = some l) (hF : FrsIn l σ) {a x hi key : AV} {lo : Int} (hlo : lo < 0) : CallR C A l (.fn X.bisL) [a, x, .int lo, hi] [("key", key)] σ loMsg := by
 have hf' : DefFd X.bisL _ _ _ := X.d_bisL; have hp2 := hf'.params; have hP : SeekP X.bisL.params := by rw [hp2]; exact ⟨_, _, _, _, _, _, _, rfl⟩
 exact bis_raise X hf' (by decide) (by decide) hA hfr hF hlo (seek_binds_4k hP hs)
theorem bisR_raise4 (hs : SeekD C X.bisR) {n : Nat} (hA : AOk (n + 1) A) (hfr : A.frames = some l) (hF : FrsIn l σ) {a x hi key : AV} {lo : Int} (hlo : lo < 0) : CallR C A l (.fn X.bisR) [a, x, .int lo, hi] [("key", key)] σ loMsg := by
 have hf' : DefFd X.bisR _ _ _ := X.d_bisR; have hp2 := hf'.params; have hP : SeekP X.bisR.params := by rw [hp2]; exact ⟨_, _, _, _, _, _, _, rfl⟩
 exact bis_raise X hf' (by decide) (by decide) hA hfr hF hlo (seek_binds_4k hP hs)
theorem insR_raise (hs : SeekD C X.insR) (hs2 : SeekD C X.bisR) {n : Nat} (hA : AOk (n + 2) A) (hfr : A.frames = some l) (hF : FrsIn l σ) {a x : AV} {kfd : FuncData} {lo kx : Int} (hlo : lo < 0)
   (hkey : ∀ A' τ (Q : AV -> St -> Prop), AOk n A' -> (∀ q ∈ σ, q ∈ τ) -> Q (.int kx) τ -> CallV C A' (.fn kfd) [x] [] τ Q) : CallR C A l (.fn X.insR) [a, x, .int lo] [("key", .fn kfd)] σ loMsg := by
 have hf' : DefFd X.insR _ _ _ := X.d_insR; have hp2 := hf'.params; have hP : SeekP X.insR.params := by rw [hp2]; exact ⟨_, _, _, _, _, _, _, rfl⟩
 obtain ⟨f1, f2, f3, f4, f5, f6⟩ := hf'; refine callR_def (m0 := [("a", some a), ("x", some x), ("lo", some (.int lo)), ("hi", some .none), ("key", some (.fn kfd))]) X.G hA hfr hF f1 (f3 ▸ scopeOk_of (by decide)) (f3 ▸ by decide) f4 f5 f6 (seek_binds_3k hP hs) ?_ (show (["a", "x", "lo", "hi", "key"] : List Str).Nodup by decide) (show (["a", "x", "lo", "hi", "key"] : List Str).Nodup by decide) ?_ (f3 ▸ fun L A' env hA' hfr' hE hF' => ?_)
 . intro y hy; rw [f3]; have h3 : ∀ x ∈ (["a", "x", "lo", "hi", "key"] : List Str), (x, NameKind.local) ∈ (([("a", .local), ("x", .local), ("lo", .local), ("hi", .local), ("key", .local), ("bisect_right", .globalImplicit)] : List (Str × NameKind))) := by decide
   exact h3 _ (mem_map_of_mem (f := (·.1)) hy)
 . intro y av hy; simp only [mem_cons, Prod.mk.injEq, not_mem_nil, or_false, Option.some.injEq] at hy ⊢; exact hy
 . refine exsR_cons (exR_if ?_); iterate 3 walk_at "e"
   refine cmp_is_none_ne ⟨_, rfl, rfl, ?_⟩ (fun P v r => by rintro rfl; cases r); refine if_f (by decide) ?_; refine exsR_cons (exR_assign (evR_call ?_ rfl rfl ⟨_, _, rfl⟩) rfl rfl); walk_at "e"; refine ⟨_, rfl, ?_⟩; iterate 5 walk_at "e"
   refine ⟨.inl rfl, .fn _, ?_⟩; iterate 3 walk_at "e"
   refine kw_nil ?_; refine hkey A' _ _ (hA'.le (by lia)) (fun q hq => mem_cons_of_mem _ hq) ?_; iterate 5 walk_at "e"
   refine kw_cons ?_; walk_at "e"; refine kw_nil ?_; exact ⟨rfl, bisR_raise4 X hs2 hA' hfr' hF' hlo⟩
theorem insL_raise (hs : SeekD C X.insL) (hs2 : SeekD C X.bisL) {n : Nat} (hA : AOk (n + 2) A) (hfr : A.frames = some l) (hF : FrsIn l σ) {a x : AV} {kfd : FuncData} {lo kx : Int} (hlo : lo < 0)
   (hkey : ∀ A' τ (Q : AV -> St -> Prop), AOk n A' -> (∀ q ∈ σ, q ∈ τ) -> Q (.int kx) τ -> CallV C A' (.fn kfd) [x] [] τ Q) : CallR C A l (.fn X.insL) [a, x, .int lo] [("key", .fn kfd)] σ loMsg := by
 have hf' : DefFd X.insL _ _ _ := X.d_insL; have hp2 := hf'.params; have hP : SeekP X.insL.params := by rw [hp2]; exact ⟨_, _, _, _, _, _, _, rfl⟩
 obtain ⟨f1, f2, f3, f4, f5, f6⟩ := hf'; refine callR_def (m0 := [("a", some a), ("x", some x), ("lo", some (.int lo)), ("hi", some .none), ("key", some (.fn kfd))]) X.G hA hfr hF f1 (f3 ▸ scopeOk_of (by decide)) (f3 ▸ by decide) f4 f5 f6 (seek_binds_3k hP hs) ?_ (show (["a", "x", "lo", "hi", "key"] : List Str).Nodup by decide) (show (["a", "x", "lo", "hi", "key"] : List Str).Nodup by decide) ?_ (f3 ▸ fun L A' env hA' hfr' hE hF' => ?_)
 . intro y hy; rw [f3]; have h3 : ∀ x ∈ (["a", "x", "lo", "hi", "key"] : List Str), (x, NameKind.local) ∈ (([("a", .local), ("x", .local), ("lo", .local), ("hi", .local), ("key", .local), ("bisect_left", .globalImplicit)] : List (Str × NameKind))) := by decide
   exact h3 _ (mem_map_of_mem (f := (·.1)) hy)
 . intro y av hy; simp only [mem_cons, Prod.mk.injEq, not_mem_nil, or_false, Option.some.injEq] at hy ⊢; exact hy
 . refine exsR_cons (exR_if ?_); iterate 3 walk_at "e"
   refine cmp_is_none_ne ⟨_, rfl, rfl, ?_⟩ (fun P v r => by rintro rfl; cases r); refine if_f (by decide) ?_; refine exsR_cons (exR_assign (evR_call ?_ rfl rfl ⟨_, _, rfl⟩) rfl rfl); walk_at "e"; refine ⟨_, rfl, ?_⟩; iterate 5 walk_at "e"
   refine ⟨.inl rfl, .fn _, ?_⟩; iterate 3 walk_at "e"
   refine kw_nil ?_; refine hkey A' _ _ (hA'.le (by lia)) (fun q hq => mem_cons_of_mem _ hq) ?_; iterate 5 walk_at "e"
   refine kw_cons ?_; walk_at "e"; refine kw_nil ?_; exact ⟨rfl, bisL_raise4 X hs2 hA' hfr' hF' hlo⟩
end
end
section
theorem Upd.symm {σ σ' : St} {a : Addr} {e e' : AEnt} (h : Mine.Upd σ a e e' σ') : Mine.Upd σ' a e' e σ := by
 induction h with
 | here => exact .here
 | there _ ih => exact .there ih
theorem SetM.keep {m m' : List (Str × Option AV)} {x : Str} {d : AV} (h : SetM m x d m') : ∀ {y : Str} {av : AV}, (y, some av) ∈ m -> y ≠ x -> (y, some av) ∈ m' := by
 induction h with
 | here =>
   intro y av hm hy; rcases List.mem_cons.mp hm with e | hm
   . cases e; exact absurd rfl hy
   . exact mem_cons_of_mem _ hm
 | there _ ih =>
   intro y av hm hy; rcases List.mem_cons.mp hm with e | hm
   . exact e ▸ mem_cons_self
   . exact mem_cons_of_mem _ (ih hm hy)
section
variable {C : Cx} {A : Around} {σ σ' : St} {P : Pool} {env : Env} {l : List Env} {msg : Str} {L : Addr}
theorem Sat.add {s : Shared} {a : Addr} {e : AEnt} (S : Sat C P σ s) (h1 : P a = none) (h2 : a ∉ σ.map (·.1)) (he : EntAt P s.heap a e) : Sat C P ((a, e) :: σ) s := by
 refine ⟨S.base, S.pool, fun p hp => ?_, fun p hp => ?_, ?_, S.os, S.gens⟩
 . rcases List.mem_cons.mp hp with rfl | hp
   . exact h1
   . exact S.off p hp
 . rcases List.mem_cons.mp hp with rfl | hp
   . exact he
   . exact S.ents p hp
 . rw [map_cons]; exact List.nodup_cons.mpr ⟨h2, S.nd⟩
theorem bs_fresh {s : Shared} {base : Heap} {a : Addr} {o : Obj} (S : Sat C P σ s) (hb : Bs base P σ s.heap) (ha : base.get? a = none) (ho : s.heap.get? a = some o) (hd : ∀ es n, o.data ≠ .dict es n) : P a = none /\ a ∉ σ.map (·.1) := by
 constructor
 . cases hq : P a with
   | none => rfl
   | some o' => have := hb.1 _ _ hq; rw [ha] at this; cases this
 . intro hm; obtain ⟨p, hp, rfl⟩ := List.mem_map.mp hm; rcases hb.2 p hp with ⟨m, e⟩ | h
   . obtain ⟨q, en⟩ := p; dsimp only at e; subst e; obtain ⟨_, m', ⟨o', es, ep, ho', hd', _⟩, _⟩ := S.ents _ hp; rw [ho'] at ho; cases ho; exact hd _ _ hd'
   . have := h _ ho; rw [ha] at this; cases this
theorem name_gn_at {names : List (Str × NameKind)} {cells : List (Str × Addr)} {x : Str} {pos : Pos} {d : AV} {s : Shared} {K : Value -> Shared -> Prop} {E : Value -> Shared -> Prop} (S : Sat C P σ s) (hE : EnvIs env L names cells) (hk : (x, .globalImplicit) ∈ names) (hg : GN C x d) (hK : ∀ v, VR C.P₀ v d -> K v s) :
   wpAny (model C.prog C.w) A (eval (.Name x pos) env) K E s := by
 obtain ⟨glob, G, hg⟩ := hg; refine wpAny_Name ?_ (hE.dbg hk); obtain ⟨mg, mb, h1, h2, h3⟩ := G.glob s.heap (fun a o e => S.pool _ _ (S.base _ _ e)); obtain ⟨v, r, e⟩ := h3 x d hg; rw [loadName_read hE.kind (hE.isGlob _ hk)]; rcases e with e | ⟨e1, e2⟩
 . exact loadGlobal_global (hE.glob ▸ h1) e (hK v r)
 . exact loadGlobal_builtin (hE.glob ▸ h1) e1 (hE.blt ▸ h2) e2 (hK v r)
noncomputable def BodyF (C : Cx) (A : Around) (l : List Env) (t : Sem Flow) (σ : St) (msg : Str) : Prop :=
 ∀ P s, Sat C P σ s -> wpAny (model C.prog C.w) A t (fun _ _ => False) (fun e s' => ∃ P', PLe P P' /\ Flown C l P' σ msg e s') s
theorem exsF_cons {st : PySem.Stmt} {rest : List PySem.Stmt} (h : BodyF C A l (exec st env) σ msg) : BodyF C A l (execs (st :: rest) env) σ msg :=
 fun P s S => wpAny_execs_cons (wpAny_mono (h P s S) (fun _ _ x => x.elim) fun _ _ x => x)
theorem exF_expr {ex : Expr} {pos : Pos} {names : List (Str × NameKind)} {cells : List (Str × Addr)} (h : EvR C A l (eval ex env) σ msg) (hE : EnvIs env L names cells) (hs : swapsWith ex none pos.line env = pure false) : BodyF C A l (exec (.Expr ex pos) env) σ msg := by
 intro P s S
 have hi : interactive env = false := by
   unfold interactive; rw [hE.kind]; rfl
 exact wpAny_Expr (wpAny_mono (h P s S) (fun _ _ x => x.elim) fun _ _ x => x) hi hs
theorem cv_str_exc (hu : A.units + 2 < cLine) {a t : Addr} {oe ot : Obj} {k : Tok} {u : Array Value} {nt : Nat} (h1 : (a, .obj oe) ∈ σ) (h2 : (t, .obj ot) ∈ σ) (c1 : oe.cls = .type "ValueError") (d1 : oe.data = .fields u) (d2 : u[0]? = some (.ref t)) (c2 : ot.cls = .type "tuple") (d3 : ot.data = .seq #[.str msg k] nt)
   (hQ : Q (.str msg) σ) : CallV C A (.val (.type "str")) [.val (.ref a)] [] σ Q := by
 refine CallV.v1 fun P s v0 S r => ?_; obtain rfl := r.val_inv; exact PySem.P.str_of_exc_one PySem.F.excStr_ValueError hu ⟨oe, u, S.ents _ h1, c1, d1, d2⟩ ⟨ot, nt, S.ents _ h2, c2, d3⟩ (Post.mk S (.str _ _) hQ)
theorem ex_try {body : List PySem.Stmt} {x n : Str} {b₀ : PySem.Stmt} {suite : List PySem.Stmt} {np hpos pos : Pos} {names : List (Str × NameKind)} {cells : List (Str × Addr)} {m : List (Str × Option AV)} {m1 : Value -> List (Str × Option AV)} {σ1 : Value -> St} {Q : AFlow -> St -> Prop}
   (hfr : A.frames = some (env :: l)) (hf : env.frame = some L) (hE : EnvIs env L names cells) (hk : (n, .local) ∈ names) (hxk : (x, .globalImplicit) ∈ names) (hg : GN C x (.val (.type "ValueError")))
   (hbody : BodyF C A (env :: l) (execs body env) σ msg) (hno : ∀ av, (n, some av) ∉ m) (hm1 : ∀ v, SetM m n (.val v) (m1 v)) (hu1 : ∀ v, Mine.Upd σ L (.ns m) (.ns (m1 v)) (σ1 v))
   (hsuite : ∀ a t oe ot k u nt, oe.cls = .type "ValueError" -> oe.data = .fields u -> u[0]? = some (.ref t) -> ot.cls = .type "tuple" -> ot.data = .seq #[.str msg k] nt ->
     Ef C (A.mark (some (.ref a))) (execs (b₀ :: suite) env) ((t, .obj ot) :: (a, .obj oe) :: σ1 (.ref a)) fun f σ' => f = .next /\ σ' = (t, .obj ot) :: (a, .obj oe) :: σ1 (.ref a))
   (hQ : Q .next σ) : Ef C A (exec (.Try body [.ExceptHandler (some (.Name x np)) (some n) (b₀ :: suite) hpos] [] [] pos) env) σ Q := by
 intro P s S; refine wpAny_Try_except (wpAny_mono (hbody P s S) (fun _ _ x => x.elim) fun e s' hzz => ?_); obtain ⟨P', hle, hx⟩ := hzz; obtain ⟨base, a, t, k, rfl, f1, f2, f3, S1, hb⟩ := hx; refine wpAny_looks_onW hfr hf f1 fun h4 g1 g2 => ?_; refine wpAny_landsW g1 fun h5 g3 g4 => ?_; obtain ⟨S2, hb2⟩ := S1.fly hb g3.1 (g2.trans g4); have f2' := f2.of_slots (g2.trans g4); have hsub : isSubtype (.type "ValueError") (.type "ValueError") = pure true := by rw [isSubtype_type]; kernel_rfl
 have hnt : isSubtype (.type ((Manifest.find? "ValueError").elim "type" fun y => y.metatype)) (.type "tuple") = pure false := by
   have e : ((Manifest.find? "ValueError").elim "type" fun y => y.metatype) = "type" := by decide +kernel
   rw [e, isSubtype_type]; kernel_rfl
 refine wpAny_handleBy_builtin_as (X := "ValueError") (T := "ValueError") (b := true) PySem.F.excRaise_ValueError.isExc hnt hsub ?_; refine name_gn_at S2 hE hxk hg fun v r => ?_; obtain rfl := r.val_inv; refine ⟨rfl, ?_, ?_⟩
 . obtain ⟨ob, hob, hobc⟩ := g3.there; exact ⟨ob, hob, hobc⟩
 refine if_t rfl ?_; refine lands_againW g3 fun h6 g5 g6 => ?_; obtain ⟨S3, hb3⟩ := S2.fly hb2 g5.1 g6; have f2'' := f2'.of_slots g6
 obtain ⟨oe, u, he, hc, hd, h0⟩ := g5.first
 obtain ⟨ot, nt, hto, htc, htd⟩ := f2''; obtain ⟨q1, q2⟩ := bs_fresh S3 hb3 g5.2.1 he (fun es n e => by rw [hd] at e; cases e); obtain ⟨q3, q4⟩ := bs_fresh S3 hb3 f3 hto (fun es n e => by rw [htd] at e; cases e)
 have hta : t ≠ a := fun e => by
   rw [e, he] at hto; cases hto; rw [hd] at htd; cases htd
 have S4 := S3.add q1 q2 (e := .obj oe) he; have S5 := S4.add (a := t) (e := .obj ot) q3 (by rw [map_cons, mem_cons, not_or]; exact ⟨hta, q4⟩) hto; have st : Op1 RU C (A.mark (some (.ref a))) (storeName env n) (.val (.ref a)) ((t, .obj ot) :: (a, .obj oe) :: σ) fun _ σ' => σ' = (t, .obj ot) :: (a, .obj oe) :: σ1 (.ref a) := store_loc hE hk (hm1 _) (.there (.there (hu1 _))) rfl; refine wpAny_mono (st P' _ _ S5 (.val _)) (fun _ s6 hzz => ?_) fun _ _ x => x.elim; obtain ⟨P6, _, σ6, l6, S6, _, e6⟩ := hzz; subst e6; refine (hsuite a t oe ot k u nt hc hd h0 htc htd).run S6 fun P7 fl af σ7 s7 l7 S7 r7 hzz => ?_; obtain ⟨e7, e8⟩ := hzz; subst e7; subst e8; cases r7; have S8 := (S7.sub (sublist_cons_self _ _)).sub (sublist_cons_self _ _); obtain ⟨nd, m', hns, hval⟩ := S8.ents _ (Upd.symm (hu1 _)).mem; refine wpAny_nameGoes_keeps (hE.isLoc _ hk) (hE.loc ▸ hns) (by rw [hE.kind]; rfl) fun h9 v hn9 hs9 => ?_
 have hkeys : (m.map (·.1)).Nodup := by rw [<- (hm1 (.ref a)).keys.1]; exact nd
 have hno' : ∀ y av, (y, some av) ∈ m -> y ≠ n := fun y av hy e => hno av (e ▸ hy); rw [hE.loc] at hn9 hs9
 have S9 := S8.upd (Upd.symm (hu1 _)) (h' := h9) (s7.toks + 1) (fun b o hb e => (hs9.2 b hb).trans e) (by
   refine ⟨hkeys, _, hn9, fun y av hy => ?_⟩; have hyn := hno' y av hy; obtain ⟨w, w1, w2⟩ := hval y av ((hm1 _).keep hy hyn); exact ⟨w, by rw [if_neg hyn]; exact w1, w2⟩)
 exact ⟨P7, .next, σ, (hle.trans l6).trans l7, S9, .next, hQ⟩
theorem callV_cellsF {glob : List (Str × AV)} {fd : FuncData} {body : List PySem.Stmt} {ds : List AV} {pn : List Str} {cn : List Str} {m0 : List (Str × Option AV)} {n : Nat} (G : Gl C glob) (hA : AOk (n + 1) A) (hfr : A.frames = some l)
   (hbody : fd.body = .stmts body) (sc : ScopeOk fd.scope) (hg : fd.globals = mainGlobals) (hb : fd.builtins = builtinsNs) (hclo : fd.closure = [])
   (hcn : cellNames fd.scope.names = cn) (hcnd : cn.Nodup) (hck : ∀ x ∈ cn, (x, .cell) ∈ fd.scope.names)
   (hbind : ∀ vs : List Value, vs.length = ds.length -> bindArgs fd ⟨vs, []⟩ = pure (pn.zip vs)) (hpl : pn.length = ds.length)
   (hloc : ∀ x ∈ pn, (x, .local) ∈ fd.scope.names \/ ((x, .cell) ∈ fd.scope.names /\ x ∈ cn)) (hpn : pn.Nodup) (hm0 : (m0.map (·.1)).Nodup) (hm : ∀ x av, (x, some av) ∈ m0 -> (x, .local) ∈ fd.scope.names /\ (x, av) ∈ pn.zip ds)
   (h : ∀ L A' env (ca : List Addr), ca.length = cn.length -> AOk n A' -> A'.frames = some (env :: l) -> env.frame = some L -> EnvIs env L fd.scope.names (cn.zip ca) -> env.code = fd.code -> env.qual = fd.qualname ++ ".<locals>." -> Ef C A' (execs body env) ((L, .ns m0) :: (cellEnts (cn.zip ca) (pn.zip ds) ++ σ)) (RetQ Q)) :
   CallV C A (.fn fd) ds [] σ Q := by
 intro P s v vs kvs S r rs rk; cases rk; obtain ⟨a, o, rfl, ho, hd, hcd⟩ := r.fn_inv; obtain ⟨c, oc, ovs, t, e1, e2, e3, e4⟩ := hcd; have rb : VRk P (pn.zip vs) (pn.zip ds) := VRk.zip pn rs
 have hkeys : (pn.zip vs).map (·.1) = pn := List.map_fst_zip (by rw [rs.length, hpl]; exact le_refl _)
 have key : ∀ x k, (x, k) ∈ fd.scope.names -> fd.scope.names.lookup x = some k := fun x k hx => lookup_of_mem sc.nd hx
 have hcf : (cellsFrom (s.heap.objs.size + 1) fd.scope.names []).map (·.1) = cn := by rw [<- hcn]; exact cellsFrom_names _ _ _ _ _ rfl
 have hcfl : ∀ x ∈ cn, ((cellsFrom (s.heap.objs.size + 1) fd.scope.names []).lookup x).isSome = true := fun x hx => by
   rw [<- hcf] at hx; obtain ⟨p, hp, e⟩ := List.mem_map.mp hx; rw [lookup_of_mem (k := p.2) (by rw [hcf]; exact hcnd) (by rw [<- e]; exact hp)]; rfl
 refine wpAny_call (codeAny_call_cells (fd := fd) (binds := pn.zip vs) hA.room (S.pool _ _ ho) hd (G.nolimit _ S.old) ⟨c, oc, ovs, t, e1, S.pool _ _ e2, e3, e4⟩ hbody (hbind vs rs.length) hclo (fun x hx => ?_) (fun s₁ x₁ => ?_) sc.co sc.gen sc.kind)
 . have h1 : x.1 ∈ pn := by rw [<- hkeys]; exact mem_map_of_mem (f := (·.1)) hx
   rcases hloc _ h1 with q | ⟨q, q'⟩
   . exact .inl (key _ _ q)
   . exact .inr ⟨key _ _ q, hcfl _ q'⟩
 . obtain ⟨h₁, tk, rfl, hk⟩ := x₁.done
   let env := callEnvC fd s.heap.objs.size a
   have hcells : env.cells = cellsFrom (s.heap.objs.size + 1) fd.scope.names [] := rfl
   have hE : EnvIs env s.heap.objs.size fd.scope.names (cn.zip (env.cells.map (·.2))) := envIs_of sc.kind rfl sc.nd sc.nodbg sc.nocls rfl hg hb (fun x c hc => by
     rw [<- hcf, <- hcells, <- zip_fst_snd] at hc; exact lookup_of_mem (by rw [hcells, hcf]; exact hcnd) hc)
   have hnew : ∀ b, s.heap.objs.size <= b -> s.heap.get? b = none := fun b hb => Heap.get?_none_of_le hb
   have S₁ : Sat C P ((s.heap.objs.size, .ns m0) :: (cellEnts (cn.zip (env.cells.map (·.2))) (pn.zip ds) ++ σ)) { s with heap := h₁, toks := tk } := by
     refine Sat.news S (h' := h₁) tk hk ((s.heap.objs.size, .ns m0) :: cellEnts (cn.zip (env.cells.map (·.2))) (pn.zip ds)) ?_ ?_
     . have e : (cellEnts (cn.zip (env.cells.map (·.2))) (pn.zip ds)).map (·.1) = env.cells.map (·.2) := by
         unfold cellEnts; rw [map_map]
         show (cn.zip (env.cells.map (·.2))).map (·.2) = _
         exact List.map_snd_zip (by rw [<- hcf, <- hcells]; simp)
       rw [map_cons, e, nodup_cons]; refine ⟨fun hm => ?_, ?_⟩
       . obtain ⟨p, hp, e⟩ := List.mem_map.mp hm; have := x₁.above p.1 p.2 hp; have e' : p.2 = s.heap.objs.size := e; rw [e'] at this; exact absurd this (lt_irrefl _)
       . exact List.pairwise_map.mpr x₁.apart
     . intro p hp; rcases List.mem_cons.mp hp with rfl | hp
       . refine ⟨hnew _ (le_refl _), hm0, _, x₁.toInCall.ns, fun x av hx => ?_⟩; obtain ⟨q1, q2⟩ := hm x av hx; obtain ⟨v, g1, g2⟩ := rb.mem q2; exact ⟨v, bindL_get _ _ _ _ (key _ _ q1) g1 (by rw [hkeys]; exact hpn), g2⟩
       . obtain ⟨p', hp', rfl⟩ := List.mem_map.mp hp; rw [<- hcf, <- hcells, <- zip_fst_snd] at hp'; have habove := x₁.above p'.1 p'.2 hp'; have hlk : env.cells.lookup p'.1 = some p'.2 := lookup_of_mem (by rw [hcells, hcf]; exact hcnd) hp'
         have hcellk : (p'.1, NameKind.cell) ∈ fd.scope.names := hck _ (by rw [<- hcf, <- hcells]; exact mem_map_of_mem (f := (·.1)) hp')
         refine ⟨hnew _ (le_of_lt habove), _, x₁.cell _ _ hlk, fun av hav => ?_⟩; obtain ⟨v, g1, g2⟩ := rb.mem (mem_of_lookup' hav); exact ⟨v, bindC_get _ _ _ _ (by show fd.scope.names.lookup p'.1 ≠ _; rw [key _ _ hcellk]; simp) g1 (by rw [hkeys]; exact hpn), g2⟩
   refine (h _ _ _ (env.cells.map (·.2)) (by rw [<- hcf, <- hcells]; simp) (hA.deeper _) (Around.frames_deeper hfr) rfl hE rfl rfl).run S₁ fun P₂ fl af σ₂ s₂ l₂ S₂ r₂ hzz => ?_
   obtain ⟨d, σ₃, hf, hs, hq⟩ := hzz
   cases r₂ with
   | next => cases hf; exact ⟨P₂, _, σ₃, l₂, S₂.sub hs, .none, hq⟩
   | brk => cases hf
   | cont => cases hf
   | ret r => cases hf; exact ⟨P₂, _, σ₃, l₂, S₂.sub hs, r, hq⟩
end
end
section
set_option genInjectivity false in
set_option genSizeOf false in
structure Tk (C : Cx) where
 tok : Addr
 f : Str -> Option Value
 g_tok : GN C "EXACT_TOKEN_TYPES" (.val (.ref tok))
 lo : (tok == sysModules) = false
 map : ∀ h : Heap, (∀ a o, C.P₀ a = some o -> h.get? a = some o) -> h.MapOf (PySem.strKind C.prog C.w) tok f
section
variable {C : Cx} {A : Around} {σ σ' : St} {env : Env} {pos : Pos} {d e : AV} {P : Pool}
theorem in_tok (T : Tk C) {x : Str} (hQ : Q (.bool (T.f x).isSome) σ) : Op2 VR C A (compareOp .In) (.str x) (.val (.ref T.tok)) σ Q := by
 intro P s v0 v1 S r0 r1; obtain ⟨t0, rfl⟩ := r0.str_inv; obtain rfl := r1.val_inv; exact wpAny_in_of (strKind_is C.prog C.w x _) T.lo (T.map s.heap S.old) (Post.mk (S.toks _) (VR.bool _) hQ)
theorem gi_tok (T : Tk C) {x : Str} {i : Int} {t : Tok} (hx : T.f x = some (.int i t)) (hQ : Q (.int i) σ) : Op2 VR C A getItem (.val (.ref T.tok)) (.str x) σ Q := by
 intro P s v0 v1 S r0 r1; obtain rfl := r0.val_inv; obtain ⟨t1, rfl⟩ := r1.str_inv; exact wpAny_getItem_of (strKind_is C.prog C.w x _) (T.map s.heap S.old) hx (Post.mk (S.toks _) (VR.int _ _) hQ)
theorem st_tok (T : Tk C) {value slice : Expr} {x : Str} (h : Op2 VR C A getItem (.val (.ref T.tok)) (.str x) σ Q)
   (hs : ∀ o i, subscripted slice false o i = operate [o, i] (getItem o i)) : Op2 VR C A (subscriptTail value slice) (.val (.ref T.tok)) (.str x) σ Q := by
 intro P s v u S r r'; have g := h P s v u S r r'; obtain rfl := r.val_inv; exact tail_any (T.map s.heap S.old).typeIs slot_dict_getitem.lookup g (hs _ _)
theorem VRkv.cons_inv {ka : List (Int × Value)} {k : Int} {d : AV} {ds : List (Int × AV)} (h : VRkv P ka ((k, d) :: ds)) : ∃ v kb, ka = (k, v) :: kb /\ VR P v d /\ VRkv P kb ds := by cases h; exact ⟨_, _, rfl, by assumption, by assumption⟩
theorem kv_hits {s : Shared} {kb : List (Int × Value)} {u : List (Int × Int)} (hb : VRkv P kb (dI u)) {ka : List (Int × Value)} {t : List (Int × Int)} (ha : VRkv P ka (dI t)) (hall : ∀ p ∈ t, gGet u p.1 = some p.2) : KeqHits A s kb ka true := by
 induction t generalizing ka with
 | nil => cases ha; exact .nil
 | cons p t ih =>
   obtain ⟨k, i⟩ := p; obtain ⟨v, kc, rfl, h, r⟩ := VRkv.cons_inv ha; have h1 : gGet u k = some i := hall (k, i) mem_cons_self; have h2 : gGet (dI u) k = some (.int i) := by rw [gGet_map, h1]; rfl
   obtain ⟨y, y1, y2⟩ := hb.find.1 _ h2; obtain ⟨tk, rfl⟩ := h.int_inv; obtain ⟨tk', rfl⟩ := y2.int_inv; have hh := KeqHits.hit (r := _) y1 (SeqAt.EqAt.int_int (A := A) (s := s) i tk i tk') (ih r fun p hp => hall p (mem_cons_of_mem _ hp)); have e : ((i == i) && true) = true := by simp
   rw [e] at hh; exact hh
theorem cmp_ne_dicts {t u : List (Int × Int)} (hu : A.units < cLine) (hd : RdD σ d (dI t)) (he : RdD σ e (dI u)) (hl : t.length = u.length) (hall : ∀ p ∈ t, gGet u p.1 = some p.2) (hQ : Q (.bool false) σ) : Op2 VR C A (compareOp .NotEq) d e σ Q := by
 intro P s v w S r r'; obtain ⟨a, ka, rfl, q, g1, g2, g3⟩ := hd.get S r; obtain ⟨b, kb, rfl, q', g1', g2', g3'⟩ := he.get S r'; refine keq_ne (knd := intKind C.prog C.w) (r := true) q q' g1 g1' hu (fun _ => kv_hits g2' g2 hall) ?_; have e1 : ka.length = kb.length := by rw [g2.length, g2'.length]; simp [hl]
 rw [e1]; simp only [beq_self_eq_true, Bool.and_true, Bool.not_true]; exact Post.mk S (VR.bool _) hQ
theorem VRs.flat {vs : List Value} {ds : List AV} (h : VRs P vs ds) : ∀ n : Nat, VRs P (List.replicate n vs).flatten (List.replicate n ds).flatten
 | 0 => .nil
 | n + 1 => by
   rw [replicate_succ, replicate_succ, List.flatten_cons, List.flatten_cons]; exact h.append (h.flat n)
theorem bin_repeat {ds : List AV} {x : Int} (hd : RdE σ d ds) (hlo : 0 <= x) (hz : ds.length * x.toNat <= 1000000) (hx : x <= 1000000) (hQ : Q (.list (List.replicate x.toNat ds).flatten) σ) : Op2 VR C A (binaryOp .Mult) d (.int x) σ Q := by
 rintro P s v v1 S r r1; obtain ⟨u, rfl⟩ := r1.int_inv; obtain ⟨l, vs, k, rfl, ho, rs⟩ := hd.get S r; have hlen : vs.length = ds.length := rs.length; have hsz' : vs.toArray.size * x.toNat <= 2 ^ 24 := by rw [size_toArray, hlen]; lia
 refine wpAny_binaryOp_repeat_ref (T := "list") (U := "int") (by decide) ⟨_, ho, rfl⟩ (fun s' => typeIs_int s' x u) noFill_list_mul PySem.F.fills_int_mul PySem.F.slot_int_rmul repeat_list PySem.F.slot_int_index.lookup
   (call_meets PySem.F.slot_int_rmul (typeIs_int s x u) PySem.F.entry_int_rmul (PySem.F.args_int_rmul_2 _ _) (int___rmul___int_list x u l vs.toArray k)
     ⟨ho, rfl, ⟨_, ho, rfl⟩, call_meets PySem.F.slot_list_mul ⟨_, ho, rfl⟩ PySem.F.entry_list_mul (PySem.F.args_list_mul_2 _ _)
       (AutoListH.list___mul___list_int_3 l vs.toArray k x u (by simp [Builtin.List.listFitsIndex]; lia) (by lia) (by simp [Builtin.List.listTooLong, sizeLine]; rw [hlen]; lia))
       ⟨ho, ?_⟩⟩)
 have e : List.foldl (fun x1 x2 => x1 ++ x2) #[] (List.replicate (if vs.toArray.isEmpty = true then 0 else x.toNat) vs.toArray) = (List.replicate x.toNat vs).flatten.toArray := by
   rw [listMul_foldl_if]
 rw [e]; obtain ⟨l', S'⟩ := frozen_new (h := s.heap) S (o := { cls := .type "list", data := .seq (List.replicate x.toNat vs).flatten.toArray }) rfl s.toks; exact ⟨_, _, σ, l', S', .list (addP_self _ _ _) ((rs.flat x.toNat).mono l'), hQ⟩
theorem cv_list {ds : List AV} (hd : RdL σ d ds) (hz : ds.length <= sizeLine) (hQ : Q (.list ds) σ) : CallV C A (.val (.type "list")) [d] [] σ Q := by
 refine CallV.v1 fun P s v0 S r => ?_; obtain ⟨a, o, vs, n, rfl, h1, h2, h3, h4⟩ := hd.get S r; refine call_list_seq a (.inl rfl) h1 h2 h3 (fun h' c' hk hD => ?_) (by rw [size_toArray, h4.length]; exact hz); have S' := S.heap (h' := h') s.toks hk; have hn : s.heap.get? s.heap.objs.size = none := Heap.get?_none_of_le (le_refl _); obtain ⟨q1, q2⟩ := S.none_of_fresh hn; have S₃ := S'.frozen q1 q2 hD; have l' := addP_le (P := P) (a := s.heap.objs.size) ({ cls := .type "list", dict := none, data := .seq vs.toArray c', slots := #[] } : Obj) q1; exact ⟨_, _, _, l', S₃, .list (vs := vs) (n := c') (addP_self _ _ _) (h4.mono l'), hQ⟩
theorem it_chain2 {l r1 r2 : Expr} {o1 o2 : CmpOp} {whole : Sem Value} {Q : Bool -> St -> Prop}
   (h : Ev C A (eval l env) σ fun a σ₁ => Ev C A (eval r1 env) σ₁ fun b σ₂ => Op2 VR C A (compareOp o1) a b σ₂ fun c σ₃ => ∃ t, c = .bool t /\
     if t then Ev C A (eval r2 env) σ₃ (fun c' σ₄ => Op2 VR C A (compareOp o2) b c' σ₄ fun c'' σ₅ => ∃ t', c'' = .bool t' /\ Q t' σ₅) else Q false σ₃)
   (hm : lastMarks [o1, o2] [r1, r2] = false) : Eb C A (isTrue (.Compare l [o1, o2] [r1, r2] pos) env whole) σ Q := by
 intro P s S; refine isTrue_chain (h.run S fun P₁ v₁ a σ₁ s₁ l₁ S₁ h₁ q₁ => test_link (q₁.run S₁ fun P₂ v₂ b σ₂ s₂ l₂ S₂ h₂ q₂ => wpAny_mono (q₂ P₂ s₂ v₁ v₂ S₂ (h₁.mono l₂) h₂) (fun v₃ s₃ hzz => ?_) fun _ _ x => x)) hm; obtain ⟨P₃, c, σ₃, l₃, S₃, h₃, t, e, q₃⟩ := hzz; subst e; cases h₃; refine wpAny_truthy_bool ?_
 cases t with
 | false =>
   simp only [Bool.false_eq_true, if_false] at q₃ ⊢; exact ⟨P₃, false, σ₃, (l₁.trans l₂).trans l₃, S₃, rfl, q₃⟩
 | true =>
   simp only [if_true] at q₃ ⊢; refine test_last (q₃.run S₃ fun P₄ v₄ c' σ₄ s₄ l₄ S₄ h₄ q₄ => wpAny_mono (q₄ P₄ s₄ v₂ v₄ S₄ (h₂.mono (l₃.trans l₄)) h₄) (fun v₅ s₅ hzz => ?_) fun _ _ x => x); obtain ⟨P₅, c, σ₅, l₅, S₅, h₅, t', e, q₅⟩ := hzz; subst e; cases h₅; exact wpAny_truthy_bool ⟨P₅, t', σ₅, (((l₁.trans l₂).trans l₃).trans l₄).trans l₅, S₅, rfl, q₅⟩
theorem cmp_notIn_ints {l : List Int} {k : Int} (hd : RdL σ d (l.map AV.int)) (hQ : Q (.bool (!decide (k ∈ l))) σ) : Op2 VR C A (compareOp .NotIn) (.int k) d σ Q := by
 intro P s v0 v S r0 r; obtain ⟨t0, rfl⟩ := r0.int_inv; obtain ⟨a, vs, rfl, g1, g2⟩ := hd.isList S r; refine notin_list_ints g1 (intsAre g2) ?_
 have e : (l.any fun x => x == k) = decide (k ∈ l) := by
   rw [Bool.eq_iff_iff, List.any_eq_true, decide_eq_true_eq]; exact ⟨fun ⟨x, h1, h2⟩ => by rw [<- (show x = k from by simpa using h2)]; exact h1, fun h => ⟨k, h, by simp⟩⟩
 rw [e]; exact Post.mk S (VR.bool _) hQ
theorem cmp_ne_listsU {ds es : List AV} {xs ys : List Dat} (hA : A.units + 64 < cLine) (hd : RdL σ d ds) (he : RdL σ e es) (hx : IsDats ds xs) (hy : IsDats es ys) (kx : ∀ d ∈ xs, kqdOk 8 d = true) (ky : ∀ d ∈ ys, kqdOk 8 d = true)
   (hQ : ∀ t : Bool, (t = true ↔ xs ≠ ys) -> Q (.bool t) σ) : Op2 VR C A (compareOp .NotEq) d e σ Q := by
 intro P s v u S r r'; obtain ⟨as, ra⟩ := hd.reads hx S r; obtain ⟨bs, rb⟩ := he.reads hy S r'; obtain ⟨h1, h2, h3⟩ := eqvL kx ky; refine ne_dataH ra rb h2 h3 hA (Post.mk S (.bool _) (hQ _ ?_)); rw [Bool.not_eq_true', <- Bool.not_eq_true, h1]
theorem cmp_ne_same {ds es : List AV} {xs : List Dat} (hA : A.units + 64 < cLine) (hd : RdL σ d ds) (he : RdL σ e es) (hx : IsDats ds xs) (hy : IsDats es xs) (kx : ∀ d ∈ xs, kqdOk 8 d = true)
   (hQ : Q (.bool false) σ) : Op2 VR C A (compareOp .NotEq) d e σ Q :=
 cmp_ne_listsU hA hd he hx hy kx kx fun t ht => by
   have : t = false := by cases t with
     | false => rfl
     | true => exact absurd rfl (ht.mp rfl)
   rw [this]; exact hQ
end
section
variable {prog : Program} {w : World} {A : Around} {E : Value -> Shared -> Prop} {s : Shared}
theorem nextOf_tuple_item {it t : Addr} {i : Nat} {items : Array Value} {x : Value} {Q : Value -> Shared -> Prop} (hit : s.heap.IsTupleIter it t i)
   (hl : s.heap.IsTuple t items) (hx : items[i]? = some x)
   (hQ : ∀ h', h'.IsTupleIter it t (i + 1) -> Heap.SameBut it s.heap h' -> Q x { s with heap := h' }) :
   wpAny (model prog w) A (Builtin.SmallTypes.nextOf (.ref it)) Q E s := by
 obtain ⟨o, ho, hc, hd⟩ := id hit; obtain ⟨ol, hol, _, nl, hdl⟩ := hl; unfold Builtin.SmallTypes.nextOf
 refine wpAny_bind (wpAny_callSpecial?_slot (name := Str.ofString "__next__") hit.typeIs PySem.F.slot_tuple_iterator_next
   (wpAny_call_entry PySem.F.slot_tuple_iterator_next hit.typeIs PySem.F.entry_tuple_iterator_next ?_ (PySem.F.args_tuple_iterator_next_1 _)))
 show wpAny _ _ (field (.ref it) 0 >>= _) _ _ s; refine wpAny_bind (wpAny_field ho hd (x := .ref t) rfl ?_)
 show wpAny _ _ (if (Value.ref t == Value.none) = true then _ else _) _ _ s
 rw [if_neg (show ¬ ((Value.ref t == Value.none) = true) from Bool.false_ne_true)]; show wpAny _ _ (field (.ref it) 1 >>= _) _ _ s; refine wpAny_bind (wpAny_field ho hd (x := .int i 0) rfl ?_); show wpAny _ _ (seqItems? (.ref t) >>= _) _ _ s; refine wpAny_bind (wpAny_seqItems hol hdl ?_); simp only [toNat_natCast, hx]; refine wpAny_bind (wpAny_setField ho hd (by simp) (wpAny_pure ⟨x, rfl, wpAny_pure (hQ _ ?_ (Heap.SameBut.update ..))⟩))
 exact ⟨_, Heap.get?_update_self _ ho (Obj.isFreed_of_fields (Obj.data_mapFields hd _)), (Obj.cls_mapFields ..).trans hc, by
   rw [Obj.data_mapFields hd]; simp [rawInt]⟩
theorem nextOf_tuple_end {it t : Addr} {i : Nat} {items : Array Value} {Q : Value -> Shared -> Prop} (hh : A.handled = none)
   (hit : s.heap.IsTupleIter it t i) (hl : s.heap.IsTuple t items) (hx : items[i]? = none)
   (hE : ∀ h' e, Heap.ExtBut it s.heap h' -> (∃ o, h'.get? e = some o /\ o.cls = .type "StopIteration") -> E (.ref e) { s with heap := h' }) :
   wpAny (model prog w) A (Builtin.SmallTypes.nextOf (.ref it)) Q E s := by
 obtain ⟨o, ho, hc, hd⟩ := id hit; obtain ⟨ol, hol, _, nl, hdl⟩ := hl; unfold Builtin.SmallTypes.nextOf
 refine wpAny_bind (wpAny_callSpecial?_slot (name := Str.ofString "__next__") hit.typeIs PySem.F.slot_tuple_iterator_next
   (wpAny_call_entry PySem.F.slot_tuple_iterator_next hit.typeIs PySem.F.entry_tuple_iterator_next ?_ (PySem.F.args_tuple_iterator_next_1 _)))
 show wpAny _ _ (field (.ref it) 0 >>= _) _ _ s; refine wpAny_bind (wpAny_field ho hd (x := .ref t) rfl ?_)
 show wpAny _ _ (if (Value.ref t == Value.none) = true then _ else _) _ _ s
 rw [if_neg (show ¬ ((Value.ref t == Value.none) = true) from Bool.false_ne_true)]; show wpAny _ _ (field (.ref it) 1 >>= _) _ _ s; refine wpAny_bind (wpAny_field ho hd (x := .int i 0) rfl ?_); show wpAny _ _ (seqItems? (.ref t) >>= _) _ _ s; refine wpAny_bind (wpAny_seqItems hol hdl ?_); simp only [toNat_natCast, hx]; refine wpAny_bind (wpAny_rule (wpAny_bind (wpAny_setField ho hd (by simp) ?_))); show wpAny _ _ (newExc (.type "StopIteration") [] >>= _) _ _ _; refine wpAny_bind ?_; simp only [newExc, newTuple]; refine wpAny_bind (wpAny_newObj_type ?_ (by size_fits))
 refine wpAny_bind (m := firstArgMember _ _) (wpAny_of_eq (a := Value.none) (by first | rfl | (simp only [firstArgMember]; rfl)) ?_)
 refine wpAny_newObj_type ?_ (by size_fits); simp only [raiseNew]; refine wpAny_bind (wpAny_handled ?_); first | rw [show A.in1.handled = none from hh] | rw [hh]
 refine wpAny_bind (wpAny_pure (wpAny_throw ?_)); exact hE _ _ (((Heap.SameBut.update ..).extBut.push _).push _) ⟨_, Heap.get?_push_size _ rfl, rfl⟩
theorem isTupIter_at {h h' : Heap} {a t : Addr} {i : Nat} (x : h.IsTupleIter a t i) (k : ∀ o, h.get? a = some o -> h'.get? a = some o) : h'.IsTupleIter a t i :=
 let ⟨o, ho, r⟩ := x; ⟨o, k o ho, r⟩
theorem drawsTuple (hh : A.handled = none) (it l : Addr) (hne : l ≠ it) (items : Array Value) :
   Draws prog w A it [it, l] items.size (fun i v => items[i]? = some v) (fun i h => h.IsTupleIter it l i /\ h.IsTuple l items) where
 live := fun _ _ st => let ⟨o, ho, _⟩ := st.1; ⟨o, ho⟩
 frame := fun _ _ _ st hk => ⟨isTupIter_at st.1 fun o e => hk it (by simp) o e, let ⟨o, ho, r⟩ := st.2; ⟨o, hk l (by simp) o ho, r⟩⟩
 item := fun i s Q E hi st hQ => by
   refine nextOf_tuple_item st.1 st.2 (x := items[i]) (by simp [hi]) fun h' hit' hs' => ?_; exact hQ _ h' s.toks (by simp [hi]) ⟨hit', st.2.extBut hs'.extBut hne⟩ hs'
 done := fun s Q E st hE => nextOf_tuple_end hh st.1 st.2 (by simp) hE
theorem called_any {prog : Program} {w : World} {A : Around} {cls : Value} {K : Bool -> Shared -> Prop} {E : Value -> Shared -> Prop} {s : Shared} (h : ∀ b, K b s) : wpAny (model prog w) A (Builtin.SmallTypes.calledThroughType cls) K E s :=
 wpAny_bind (wpAny_stack_any fun st => wpAny_pure (h _))
theorem meets_enum_tuple (l : Addr) (items : Array Value) (n : Nat) (dct : Option Addr) (sl : Array (Option Value)) :
   Meets (Builtin.«enumerate.__new__» ⟨[.type "enumerate", .ref l], []⟩) (fun _ R s => s.heap.get? l = some { cls := .type "tuple", dict := dct, data := .seq items n, slots := sl } /\
     R (.ok (.ret (.ref (s.heap.push { cls := .type "tuple_iterator", data := .fields #[.ref l, .int 0 0] }).objs.size)))
       { s with heap := (s.heap.push { cls := .type "tuple_iterator", data := .fields #[.ref l, .int 0 0] }).push { cls := .type "enumerate", data := .fields #[.none, .bool false, .ref s.heap.objs.size, rawInt 0, .none, .none] } }) :=
 .of_wp fun prog w A R s h => by
   obtain ⟨hp, g, d, tk, os⟩ := s; obtain ⟨hl, h⟩ := h; have hsub := sub_enumerate; have hL : Heap.IsTuple (Shared.heap ⟨hp, g, d, tk, os⟩) l items := ⟨_, hl, rfl, n, rfl⟩
   wp_walk using wpAny_loadPart' hl, called_any
   intro b; cases b
   . wp_walk using wpAny_loadPart' hl, wpAny_pyIter_tuple hL
     exact ⟨_, rfl, h⟩
   . wp_walk using wpAny_loadPart' hl, wpAny_pyIter_tuple hL
     exact ⟨_, rfl, h⟩
theorem call_enum_tuple {l : Addr} {items : Array Value} {Q : Value -> Shared -> Prop} (hL : s.heap.IsTuple l items)
   (h : ∀ h', IsEnum h' (s.heap.objs.size + 1) s.heap.objs.size 0 .none -> h'.IsTupleIter s.heap.objs.size l 0 ->
     (∀ b o, s.heap.get? b = some o -> h'.get? b = some o) -> Q (.ref (s.heap.objs.size + 1)) { s with heap := h' }) :
   wpAny (model prog w) A (call (.type "enumerate") [.ref l]) Q E s := by
 obtain ⟨⟨c, dct, dt, sl⟩, hl, hc, n, hd⟩ := hL; replace hc : c = .type "tuple" := hc; replace hd : dt = .seq items n := hd; subst hc hd
 refine callType_new PySem.F.called_enumerate (by decide) (PySem.F.typeCall_enumerate_1 _) (PySem.F.newCall_enumerate_1 _) (fun obj => PySem.F.args_object_init_2 obj _) PySem.F.entry_enumerate_new
   (meets_enum_tuple l items n dct sl) ⟨hl, ?_⟩
 have hz : (s.heap.push { cls := .type "tuple_iterator", data := .fields #[.ref l, .int 0 0] }).objs.size = s.heap.objs.size + 1 := Heap.size_push ..; show _ /\ _; rw [hz]
 have he : IsEnum ((s.heap.push { cls := .type "tuple_iterator", data := .fields #[.ref l, .int 0 0] }).push
     { cls := .type "enumerate", data := .fields #[.none, .bool false, .ref s.heap.objs.size, rawInt 0, .none, .none] }) (s.heap.objs.size + 1) s.heap.objs.size 0 .none := by
   have := Heap.get?_push_size (s.heap.push { cls := .type "tuple_iterator", data := .fields #[.ref l, .int 0 0] })
     (o := { cls := .type "enumerate", data := .fields #[.none, .bool false, .ref s.heap.objs.size, rawInt 0, .none, .none] }) rfl
   rw [hz] at this; exact this
 refine ⟨⟨_, he, rfl⟩, h _ he ⟨_, Heap.get?_push_of_some _ (Heap.get?_push_size _ rfl), rfl, rfl⟩ fun b o x => Heap.get?_push_of_some _ (Heap.get?_push_of_some _ x)⟩
end
section
variable {C : Cx} {A : Around} {σ : St} {pos : Pos}
theorem mkc_enum_tuple (hh : A.handled = none) {elts : List Expr} {k : Nat} {ds : List AV} : MkCall C A (.Tuple elts k pos) "enumerate" [.tuple ds] (enumD 0 ds) σ := by
 rintro P s vs0 S rs0; obtain ⟨v0, rfl, r⟩ := rs0.inv1; obtain ⟨l, o, vs, n, rfl, hPl, hc, hd', hvs⟩ := r.tuple_inv; have hl : s.heap.IsTuple l vs.toArray := ⟨o, S.pool _ _ hPl, hc, n, hd'⟩; refine call_enum_tuple hl fun h' he hit hk => ?_; have hn : ∀ b, s.heap.objs.size <= b -> s.heap.get? b = none := fun b hb => Heap.get?_none_of_le hb; have hlt : l < s.heap.objs.size := Heap.lt_size (S.pool _ _ hPl)
 have W := WalksT.enumerateD (prog := C.prog) (w := C.w) (A := A) (drawsTuple (A := A.in1) hh s.heap.objs.size l (ne_of_lt hlt) vs.toArray) (s.heap.objs.size + 1) (Nat.succ_ne_self _)
   (by simp only [mem_cons, not_mem_nil, or_false, not_or]; exact ⟨Nat.succ_ne_self _, Ne.symm (ne_add (k := 1) hlt)⟩) (by simp)
 have hst : (∃ old, IsEnum h' (s.heap.objs.size + 1) s.heap.objs.size ((0 : Nat) : Int) old) /\ h'.IsTupleIter s.heap.objs.size l 0 /\ h'.IsTuple l vs.toArray := ⟨⟨_, he⟩, hit, ⟨o, hk _ _ (S.pool _ _ hPl), hc, n, hd'⟩⟩; refine W.self 0 { s with heap := h' } _ _ hst ?_
 exact made_of_walksT S s.toks hk (by simp) (fun b hb => by
     rcases List.mem_cons.mp hb with rfl | hb
     . exact hn _ (by lia)
     . rw [List.mem_singleton.mp hb]; exact hn _ (by lia)) W hst
   (fun i h hs b hb => by
     obtain ⟨⟨old, h1⟩, ⟨o2, h2, _⟩, _⟩ := hs; rcases List.mem_cons.mp hb with rfl | hb
     . exact ⟨_, h1⟩
     . rw [List.mem_singleton.mp hb]; exact ⟨_, h2⟩)
   (fun b hb hw => by
     simp only [mem_cons, not_mem_nil, or_false, not_or] at hb hw; rcases hb with rfl | rfl | rfl
     . exact absurd rfl hw.1
     . exact absurd rfl hw.2
     . exact ⟨o, hPl⟩) elts k pos (enumD 0 ds) (by rw [enumD_length]; simp [hvs.length])
   (fun j vals hj hv P' hl' => by
     obtain ⟨t, x, e1, rfl⟩ := hv; obtain ⟨d, g1, g2⟩ := (hvs.mono hl').at (j := j) (v := x) (by simpa using e1); refine ⟨_, enumD_get ds 0 j d g1, ?_⟩; have : ((0 + j : Nat) : Int) = (j : Int) := by lia
     rw [this]; exact .cons (.int _ _) (.cons g2 .nil))
end
end
section
noncomputable def rdT (x : Str) : Int := if x.cps.toList = ("end" : Str).cps.toList then 0 else if x.cps.toList = [82] then 256 else if x.cps.toList = [83] then 257 else if x.cps.toList = [84] then 258 else 7 + ((opTexts.map fun y => y.cps.toList).idxOf x.cps.toList : Nat)
theorem rdT_op {i : Nat} (h : i < 48) : rdT (opTexts.getD i Str.empty) = 7 + i := by
 have : ∀ i < 48, rdT (opTexts.getD i Str.empty) = 7 + (i : Int) := by decide +kernel
 exact this i h
theorem rdT_word {s : Int} (h : (7 <= s /\ s < 55) \/ s = 256 \/ s = 257 \/ s = 258) : rdT (wordOf s) = s := by
 rcases h with ⟨h1, h2⟩ | rfl | rfl | rfl
 . unfold wordOf; rw [if_neg fun q => absurd (Int.lt_trans q h2) (by decide)]; have := rdT_op (i := (s - 7).toNat) (tn48 h1 h2).1; rw [this, (tn48 h1 h2).2, Int.add_comm, Int.sub_add_cancel]
 . decide +kernel
 . decide +kernel
 . decide +kernel
noncomputable def flatR (rs : List (List Int)) : List Int := rs.flatMap fun r => r ++ [0]
theorem flatR_len : ∀ (rs : List (List Int)), (∀ r ∈ rs, r.length <= 4) -> (flatR rs).length <= 5 * rs.length
 | [], _ => le_refl _
 | r :: rs, h => by
   have h1 := h r mem_cons_self; have h2 := flatR_len rs fun r hr => h r (mem_cons_of_mem _ hr); unfold flatR at h2 ⊢; rw [flatMap_cons, length_append, length_append, length_cons, length_cons, length_nil, mul_succ, add_comm]; exact add_le_add h2 (succ_le_succ h1)
noncomputable def endsR : Nat -> List (List Int) -> List Nat
 | _, [] => []
 | k, r :: rs => (k + r.length) :: endsR (k + r.length + 1) rs
theorem endsR_c (k : Nat) (r : List Int) (rs : List (List Int)) : endsR k (r :: rs) = (k + r.length) :: endsR (k + r.length + 1) rs := rfl
noncomputable def zeroF : AV -> List AV
 | .tuple [.int k, .int s] => if s = 0 then [.int k] else []
 | _ => []
theorem zero_row (k : Nat) : ∀ (r : List Int) (l : List Int), (∀ s ∈ r, s ≠ 0) -> (enumD k ((r ++ l).map AV.int)).flatMap zeroF = (enumD (k + r.length) (l.map AV.int)).flatMap zeroF
 | [], l, _ => rfl
 | s :: r, l, h => by
   have ih := zero_row (k + 1) r l fun x hx => h x (mem_cons_of_mem _ hx); have hs := h s mem_cons_self; rw [cons_append, map_cons]; show (AV.tuple [.int k, .int s] :: enumD (k + 1) ((r ++ l).map AV.int)).flatMap zeroF = _; rw [flatMap_cons, ih]
   show (if s = 0 then _ else _) ++ _ = _
   rw [if_neg hs, nil_append, length_cons]
   congr 2
   exact add_right_comm k 1 _
theorem ends_read : ∀ (rs : List (List Int)) (k : Nat), (∀ r ∈ rs, ∀ s ∈ r, s ≠ 0) -> (enumD k ((flatR rs).map AV.int)).flatMap zeroF = (endsR k rs).map nA
 | [], k, _ => rfl
 | r :: rs, k, h => by
   have h1 := h r mem_cons_self; have ih := ends_read rs (k + r.length + 1) fun r hr => h r (mem_cons_of_mem _ hr); have e : flatR (r :: rs) = r ++ (0 :: flatR rs) := by unfold flatR; rw [flatMap_cons, append_assoc]; rfl
   rw [e, zero_row k r _ h1, map_cons]; show (AV.tuple [.int (k + r.length : Nat), .int 0] :: enumD (k + r.length + 1) ((flatR rs).map AV.int)).flatMap zeroF = _; rw [flatMap_cons, ih]; rfl
theorem ends_len : ∀ (rs : List (List Int)) (k : Nat), (endsR k rs).length = rs.length
 | [], _ => rfl
 | r :: rs, k => by rw [endsR_c, length_cons, length_cons, ends_len rs]
noncomputable def spanR : Nat -> List (List Int) -> List (Nat × Nat)
 | _, [] => []
 | k, r :: rs => (k, k + r.length) :: spanR (k + r.length + 1) rs
theorem spanR_c (k : Nat) (r : List Int) (rs : List (List Int)) : spanR k (r :: rs) = (k, k + r.length) :: spanR (k + r.length + 1) rs := rfl
theorem zip_ends : ∀ (rs : List (List Int)) (k : Nat), zipD (nA k :: (endsR k rs).map fun e => nA (e + 1)) ((endsR k rs).map nA) = (spanR k rs).map fun p => AV.tuple [nA p.1, nA p.2]
 | [], k => rfl
 | r :: rs, k => by
   have ih := zip_ends rs (k + r.length + 1); rw [endsR_c, spanR_c]; rw [map_cons, map_cons, map_cons]; show AV.tuple [nA k, nA (k + r.length)] :: zipD _ _ = _; rw [ih]
noncomputable def cutF (l : List Int) : AV -> List AV
 | .tuple [.int a, .int b] => [tA ((l.drop a.toNat).take (b.toNat - a.toNat))]
 | _ => []
theorem spans_read : ∀ (rs : List (List Int)) (pre : List Int), ((spanR pre.length rs).map fun p => AV.tuple [nA p.1, nA p.2]).flatMap (cutF (pre ++ flatR rs)) = rs.map tA
 | [], _ => rfl
 | r :: rs, pre => by
   have ih := spans_read rs (pre ++ r ++ [0]); have e : flatR (r :: rs) = r ++ (0 :: flatR rs) := by unfold flatR; rw [flatMap_cons, append_assoc]; rfl
   have e1 : (pre ++ r ++ [0]).length = pre.length + r.length + 1 := by rw [length_append, length_append]; rfl
   have e2 : pre ++ r ++ [0] ++ flatR rs = pre ++ flatR (r :: rs) := by rw [e]; simp
   rw [e1, e2] at ih; rw [spanR_c]; rw [map_cons, flatMap_cons, ih, map_cons]; show [tA (((pre ++ flatR (r :: rs)).drop ((pre.length : Int)).toNat).take ((((pre.length + r.length : Nat) : Int)).toNat - ((pre.length : Int)).toNat))] ++ _ = _; have h3 : ((pre.length : Int)).toNat = pre.length := toNat_natCast _; have h4 : (((pre.length + r.length : Nat) : Int)).toNat - pre.length = r.length := by rw [toNat_natCast, Nat.add_sub_cancel_left]
   rw [h3, h4, List.drop_left, e, List.take_left]; rfl
theorem spans_in : ∀ (rs : List (List Int)) (k : Nat), ∀ p ∈ spanR k rs, p.1 <= p.2 /\ p.2 <= k + (flatR rs).length
 | [], _, p, hp => nomatch hp
 | r :: rs, k, p, hp => by
   have e : (flatR (r :: rs)).length = r.length + 1 + (flatR rs).length := by unfold flatR; rw [flatMap_cons, length_append, length_append]; rfl
   rw [spanR_c] at hp; rcases List.mem_cons.mp hp with rfl | hp
   . dsimp only; rw [e, add_assoc]; exact ⟨le_add_right _ _, add_le_add_left (le_add_right _ _) k⟩
   . have := spans_in rs (k + r.length + 1) p hp; rw [e, <- add_assoc]; exact this
theorem word_nosp {s : Int} (h : (7 <= s /\ s < 55) \/ s = 256 \/ s = 257 \/ s = 258) : (32 : Nat) ∉ (wordOf s).cps.toList := by
 rcases h with ⟨h1, h2⟩ | rfl | rfl | rfl
 . unfold wordOf; rw [if_neg fun q => absurd (Int.lt_trans q h2) (by decide)]; have : ∀ i < 48, (32 : Nat) ∉ (opTexts.getD i Str.empty).cps.toList := by decide +kernel
   exact this _ (tn48 h1 h2).1
 . decide +kernel
 . decide +kernel
 . decide +kernel
theorem join_le : ∀ (ws : List Str), (∀ w ∈ ws, w.length <= 3) -> (Str.join ⟨#[32]⟩ ws).length <= 4 * ws.length
 | [], _ => zero_le _
 | [w], h => by
   have := h w mem_cons_self; exact le_trans this (show 3 <= 4 by decide)
 | w :: v :: ws, h => by
   have h1 := h w mem_cons_self; have ih := join_le (v :: ws) fun x hx => h x (mem_cons_of_mem _ hx)
   have e : (Str.join ⟨#[32]⟩ (w :: v :: ws)).length = w.length + 1 + (Str.join ⟨#[32]⟩ (v :: ws)).length := by
     show (w ++ ⟨#[32]⟩ ++ Str.join ⟨#[32]⟩ (v :: ws)).cps.size = _; simp only [Str.cps_append, Array.size_append]; rfl
   rw [e, length_cons, mul_succ, add_comm]; exact add_le_add ih (succ_le_succ h1)
noncomputable abbrev okSym (s : Int) : Prop := (7 <= s /\ s < 55) \/ s = 256 \/ s = 257 \/ s = 258
noncomputable def rdF : AV -> List AV
 | .str x => [AV.int (rdT x)]
 | _ => []
theorem text_words {rs : List (List Int)} (hsy : ∀ r ∈ rs, ∀ s ∈ r, okSym s) : ∀ w ∈ textW rs, (∃ s, okSym s /\ w = wordOf s) \/ w = ("end" : Str) := fun w hw => by
 obtain ⟨r, hr, hw⟩ := List.mem_flatMap.mp hw; rcases List.mem_append.mp hw with hw | hw
 . obtain ⟨s, hs, rfl⟩ := List.mem_map.mp hw; exact .inl ⟨s, hsy r hr s hs, rfl⟩
 . exact .inr (List.mem_singleton.mp hw)
theorem text_read {rs : List (List Int)} (hsy : ∀ r ∈ rs, ∀ s ∈ r, okSym s) : ((textW rs).map AV.str).flatMap rdF = (flatR rs).map AV.int := by
 have e1 : ((textW rs).map AV.str).flatMap rdF = ((textW rs).map rdT).map AV.int := by
   generalize textW rs = ws
   induction ws with
   | nil => rfl
   | cons w ws ih => rw [map_cons, flatMap_cons, ih]; rfl
 rw [e1]
 congr 1
 unfold textW flatR; rw [map_flatMap]
 have key : ∀ (l : List (List Int)), (∀ r ∈ l, ∀ s ∈ r, okSym s) -> l.flatMap (fun r => (r.map wordOf ++ [("end" : Str)]).map rdT) = l.flatMap fun r => r ++ [0] := by
   intro l
   induction l with
   | nil => intro _; rfl
   | cons r l ih =>
     intro hl; rw [flatMap_cons, flatMap_cons, ih fun x hx => hl x (mem_cons_of_mem _ hx), map_append, map_map]
     congr 1
     congr 1
     conv => rhs; rw [<- List.map_id r]
     exact map_congr_left fun s hs => rdT_word (hl r mem_cons_self s hs)
 exact key rs hsy
theorem textW_lenF : ∀ (rs : List (List Int)), (textW rs).length = (flatR rs).length
 | [] => rfl
 | r :: rs => by
   have ih := textW_lenF rs; unfold textW flatR at ih ⊢; rw [flatMap_cons, flatMap_cons, length_append, length_append, ih, length_append, length_append, length_map]; rfl
theorem text_split {rs : List (List Int)} (hsy : ∀ r ∈ rs, ∀ s ∈ r, okSym s) (hne : rs ≠ []) (hrl : ∀ r ∈ rs, r.length <= 4) (hl : rs.length <= 8) : Txt.split (Txt.join ⟨#[32]⟩ (textW rs)) ⟨#[32]⟩ = textW rs /\ (Txt.join ⟨#[32]⟩ (textW rs)).length + 2 <= sizeLine := by
 have hw := text_words hsy; constructor
 . refine split_join (fun e => ?_) (fun p hp => ?_)
   . have := textW_lenF rs; rw [e] at this
     cases rs with
     | nil => exact hne rfl
     | cons r rs => unfold flatR at this; rw [flatMap_cons] at this; simp at this
   . rcases hw p hp with ⟨s, hs, rfl⟩ | rfl
     . exact word_nosp hs
     . decide +kernel
 . have h1 : (Txt.join ⟨#[32]⟩ (textW rs)).length <= 4 * (textW rs).length := (show Txt.join ⟨#[32]⟩ (textW rs) = Str.join ⟨#[32]⟩ (textW rs) from StrLaws.glued_eq_join _ _) ▸ join_le _ fun w h => by
     rcases hw w h with ⟨s, hs, rfl⟩ | rfl
     . exact wordOf_len s
     . decide +kernel
   have h2 := textW_lenF rs; have h3 := flatR_len rs hrl; rw [sizeLine_eq]; exact le_trans (add_le_add_right (le_trans h1 (mul_le_mul_left 4 (h2 ▸ le_trans h3 (mul_le_mul_left 5 hl)))) 2) (by decide)
end
section
noncomputable abbrev lawNames : List (Str × NameKind) := [(("script" : Str), NameKind.local), (("drawn" : Str), NameKind.local), (("rules" : Str), NameKind.local), (("text" : Str), NameKind.local), (("symbols" : Str), NameKind.cell), (("sign" : Str), NameKind.cell), (("read" : Str), NameKind.cell), (("place" : Str), NameKind.local), (("symbol" : Str), NameKind.local), (("ends" : Str), NameKind.local), (("told" : Str), NameKind.local), (("way" : Str), NameKind.local), (("moves" : Str), NameKind.cell), (("before" : Str), NameKind.local), (("up" : Str), NameKind.local), (("down" : Str), NameKind.local), (("search" : Str), NameKind.local), (("refused" : Str), NameKind.local), (("due" : Str), NameKind.local), (("fitting" : Str), NameKind.cell), (("layer" : Str), NameKind.cell), (("table" : Str), NameKind.local), (("size" : Str), NameKind.cell), (("states" : Str), NameKind.cell), (("line" : Str), NameKind.cell), (("step" : Str), NameKind.local), (("open_ones" : Str), NameKind.local), (("last" : Str), NameKind.cell), (("rule" : Str), NameKind.local), (("comp" : Str), NameKind.cell), (("found" : Str), NameKind.cell), (("shelf" : Str), NameKind.cell), (("sizes" : Str), NameKind.cell), (("_law_drawn" : Str), NameKind.globalImplicit), (("_law_grammar" : Str), NameKind.globalImplicit), (("enumerate" : Str), NameKind.globalImplicit), (("zip" : Str), NameKind.globalImplicit), (("TupleComp" : Str), NameKind.globalImplicit), (("_law_machine" : Str), NameKind.globalImplicit), (("list" : Str), NameKind.globalImplicit), (("bisect_left" : Str), NameKind.globalImplicit), (("bisect_right" : Str), NameKind.globalImplicit), (("insort_left" : Str), NameKind.globalImplicit), (("insort_right" : Str), NameKind.globalImplicit), (("ValueError" : Str), NameKind.globalImplicit), (("str" : Str), NameKind.globalImplicit), (("range" : Str), NameKind.globalImplicit), (("len" : Str), NameKind.globalImplicit), (("sorted" : Str), NameKind.globalImplicit), (("abs" : Str), NameKind.globalImplicit), (("_law_fitting" : Str), NameKind.globalImplicit), (("count_calls" : Str), NameKind.globalImplicit), (("_law_further" : Str), NameKind.globalImplicit)]
noncomputable def bodyOf (o : Option PySem.Stmt) : List PySem.Stmt := match o with
 | some (.FunctionDef (body := b) ..) => b
 | _ => []
noncomputable abbrev lawBody : List PySem.Stmt := bodyOf (topSt 71)
section
variable {C : Cx} {A : Around} {σ : St} (X : Wd C) (I : Ki C)
noncomputable abbrev wlI (l : List Int) : AV := .wlist (l.map AV.int)
noncomputable abbrev lrA (rs : List (List Int)) : AV := .list (rs.map tA)
noncomputable def plF : AV -> List AV
 | .int k => [.int (k + 1)]
 | _ => []
theorem plF_flat : ∀ (l : List Nat), (l.map nA).flatMap plF = l.map fun e => nA (e + 1)
 | [] => rfl
 | e :: l => by rw [map_cons, flatMap_cons, plF_flat l]; rfl
include X I in
theorem law_1 (TK : Tk C) (htk : ∀ i < 48, ∃ t, TK.f (opTexts.getD i Str.empty) = some (.int (7 + i) t)) (htn : TK.f "R" = none /\ TK.f "S" = none /\ TK.f "T" = none /\ TK.f "end" = none)
   {A' : Around} {env : Env} {L c12 c14 : Addr} {cells : List (Str × Addr)} {ρ : List (Str × Option AV)} {τ : St} {Q : AFlow -> St -> Prop} (hA' : AOk 20 A') (hE : EnvIs env L lawNames cells) (m12 : (("read" : Str), c12) ∈ cells) (m14 : (("symbols" : Str), c14) ∈ cells) {d : AV} {ns : List Int} (hd : d = .list (ns.map AV.int) \/ d = .wlist (ns.map AV.int)) (hl : ns.length <= 63)
   (h : ∀ (d0 d1 d2 d3 d4 a b : Int) (o0 o1 o2 o3 : Option AV), Drawn [d0, d1, d2, d3, d4] -> a = 7 + d0 % 48 -> b = 7 + (d0 % 48 + 1 + d0 / 48 % 47) % 48 ->
     Ef C A' (execs (lawBody.drop 6) env) ((L, .ns (("script", o0) :: ("drawn", some (wlI [d0, d1, d2, d3, d4])) :: ("rules", some (lrA (gramR a b d1 d2 d3))) :: ("text", o1) :: ("ends", o2) :: ("told", some (lrA (gramR a b d1 d2 d3))) :: ρ)) :: (c12, .cell o3) :: (c14, .cell (some (.list [.int a, .int b, .int 257, .int 258]))) :: τ) Q) :
   Ef C A' (execs lawBody env) ((L, .ns (("script", some d) :: ("drawn", none) :: ("rules", none) :: ("text", none) :: ("ends", none) :: ("told", none) :: ρ)) :: (c12, .cell none) :: (c14, .cell none) :: τ) Q := by
 walk_at "g"; iterate 2 walk_at "e"
 refine ⟨.inl rfl, .fn _, ?_⟩; iterate 3 walk_at "e"
 refine kw_nil ?_; refine drawn_call X (hA'.le (by decide)) hd hl fun l hl5 => ?_; obtain ⟨d0, d1, d2, d3, d4, rfl⟩ : ∃ d0 d1 d2 d3 d4, l = [d0, d1, d2, d3, d4] := len5 hl5.five; walk_at "a"; have hlo := hl5.low; have b0 := hlo d0 (by walk_at "m"); have b1 := hlo d1 (by walk_at "m"); have b2 := hlo d2 (by walk_at "m"); have b3 := hlo d3 (by walk_at "m"); have b4 := hlo d4 (by walk_at "m"); walk_at "g"; iterate 2 walk_at "e"
 refine ⟨.inl rfl, .fn _, ?_⟩; iterate 3 walk_at "e"
 refine kw_nil ?_; refine gram_call X (hA'.le (by decide)) (d4 := d4) b0.1 b1.1 b2.1 b3.1 (fun τ _ => .frozenW) rfl rfl ?_; refine as_tuple hA'.handled rfl rfl ?_; walk_at "a"; walk_at "a"; walk_at "a"; obtain ⟨a, ha⟩ : ∃ a, a = 7 + d0 % 48 := ⟨_, rfl⟩; obtain ⟨b, hb⟩ : ∃ b, b = 7 + (d0 % 48 + 1 + d0 / 48 % 47) % 48 := ⟨_, rfl⟩; have h := h d0 d1 d2 d3 d4 a b; rw [<- ha, <- hb]
 have hsy : ∀ r ∈ gramR a b d1 d2 d3, ∀ s ∈ r, okSym s := fun r hr s hs => by
   rcases gram_sym hr hs with h | h | h
   . exact .inl (by rw [h, ha]; exact sy48 _)
   . exact .inl (by rw [h, hb]; exact sy48 _)
   . exact .inr h
 have hgl : (gramR a b d1 d2 d3).length = 5 := rfl; have hrl : ∀ r ∈ gramR a b d1 d2 d3, r.length <= 4 /\ r ≠ [] := fun r hr => gram_len hr; have h := fun o0 o1 o2 o3 => h o0 o1 o2 o3 hl5 ha hb; generalize gramR a b d1 d2 d3 = rs at h hsy hgl hrl ⊢; have hfl := flatR_len rs fun r hr => (hrl r hr).1; have hz0 : (flatR rs).length <= 25 := le_trans hfl (by rw [hgl]; decide); have hnz : ∀ r ∈ rs, ∀ s ∈ r, s ≠ 0 := fun r hr s hs e => absurd (e ▸ hsy r hr s hs) (by unfold okSym; decide); have hwords := text_words hsy; have hread := text_read hsy; obtain ⟨hsplit, hjl⟩ := text_split hsy (by intro e; rw [e] at hgl; cases hgl) (fun r hr => (hrl r hr).1) (by rw [hgl]; decide); have hu : A'.units + 64 < cLine := hA'.eqRoom; refine exs_cons (ex_assign ?_ (swaps_cell hE (by walk_at "m") (.inl ⟨_, _, _, _, rfl⟩)) rfl rfl); refine ev_lc (m0 := [("sign", none)]) [] rfl (by decide) hE rfl (by walk_at "s") (by decide) (allNone_of rfl) (fun _ => rfl) ?_; refine evIter_of ?_; refine ev_mcall ?_ rfl rfl ⟨_, _, rfl⟩; walk_at "e"; refine ⟨_, _, meth_str F.slot_str_split F.type_str_split, .builtin _, ?_⟩; iterate 3 walk_at "e"
 refine kw_nil ?_; refine cv_split (c := 32) hjl ?_; rw [hsplit]; refine ⟨_, mk_list (.name _ _) hA'.handled (.inl rfl), _, core_L1 rdF (by rw [hread]; exact szm (le_trans hz0 (by decide))) ?_, ?_⟩
 . intro d hd Lc cenv τ' hτ hE'; obtain ⟨w, hw, rfl⟩ := List.mem_map.mp hd; walk_at "a"; refine tests_nil ?_; refine if_t rfl ?_; walk_at "e"; refine it_cmp1 ?_ rfl; walk_at "e"; refine name_gn hE' (by walk_at "m") TK.g_tok ?_; refine in_tok TK ⟨_, rfl, ?_⟩; rcases hwords w hw with ⟨s, hs, rfl⟩ | rfl
   . have hrd := rdT_word hs; unfold okSym at hs; rcases hs with hs1 | hs1
     . obtain ⟨t, ht⟩ := htk (s - 7).toNat (tn48 hs1.1 hs1.2).1; have hws : wordOf s = opTexts.getD (s - 7).toNat Str.empty := by unfold wordOf; rw [if_neg fun q => absurd (Int.lt_trans q hs1.2) (by decide)]
       rw [hws] at hrd ⊢; refine if_t (by rw [ht]; rfl) ?_; walk_at "e"; refine name_gn hE' (by walk_at "m") TK.g_tok ?_; walk_at "e"; refine st_tok TK (gi_tok TK ht ?_) (fun _ _ => rfl); refine ⟨?_, _, .none .nil, rfl⟩; show [AV.int (rdT (opTexts.getD (s - 7).toNat Str.empty))] = _; rw [hrd, (tn48 hs1.1 hs1.2).2, Int.add_comm, Int.sub_add_cancel]
     . replace hs1 : 256 <= s /\ s <= 258 := by rcases hs1 with h | h | h <;> rw [h] <;> decide
       obtain ⟨c, hc⟩ : ∃ c : Nat, c = (82 + (s - 256)).toNat := ⟨_, rfl⟩; have hws : wordOf s = ⟨#[c]⟩ := by unfold wordOf; rw [if_pos (Int.lt_of_lt_of_le (by decide) hs1.1), hc]
       have hno : TK.f ⟨#[c]⟩ = none /\ ((⟨#[c]⟩ : Str).cps.toList == ("end" : Str).cps.toList) = false := by
         rw [hc]; rcases sy3 hs1 with e | e | e <;> rw [e]
         . exact ⟨htn.1, by decide +kernel⟩
         . exact ⟨htn.2.1, by decide +kernel⟩
         . exact ⟨htn.2.2.1, by decide +kernel⟩
       rw [hws] at hrd ⊢; refine if_f (by rw [hno.1]; decide) ?_; walk_at "e"; refine it_cmp1 ?_ rfl; iterate 2 walk_at "e"
       refine cmp_eq_str ⟨_, rfl, ?_⟩; refine if_f (by rw [hno.2]; decide) ?_; iterate 5 walk_at "e"
       refine ⟨.inl rfl, .builtin _, ?_⟩; iterate 3 walk_at "e"
       refine kw_nil ?_; refine cv_ord (bin_add ?_); walk_at "e"; refine bin_sub ?_; refine ⟨?_, _, .none .nil, rfl⟩; show [AV.int (rdT ⟨#[c]⟩)] = _; rw [hrd, hc, Int.toNat_of_nonneg (Int.add_nonneg (by decide) (Int.sub_nonneg.mpr hs1.1)), Int.add_comm 82, <- Int.add_assoc, Int.add_sub_cancel, Int.add_comm, Int.sub_add_cancel]
   . refine if_f (by rw [htn.2.2.2]; decide) ?_; walk_at "e"; refine it_cmp1 ?_ rfl; iterate 2 walk_at "e"
     refine cmp_eq_str ⟨_, rfl, ?_⟩; refine if_t (by simp) ?_; walk_at "e"; exact ⟨rfl, _, .none .nil, rfl⟩
 rw [hread]; walk_at "a"; refine exs_cons (ex_asg_lc (m0 := [("place", none), ("symbol", none)]) [] rfl (by decide) hE rfl (by walk_at "s") (by decide) (allNone_of rfl) (fun _ => rfl) (by walk_at "m") rfl (by decide) ?_); refine evIter_call (T := "enumerate") ?_ rfl rfl ⟨_, _, rfl⟩; walk_at "e"; refine ⟨rfl, ?_⟩; iterate 3 walk_at "e"
 have hends := ends_read rs 0 hnz; have hel := ends_len rs 0; refine ⟨_, mkc_enum_list hA'.handled (.inl rfl), _, core_L1 zeroF (by rw [hends, length_map, hel, sizeLine_eq]; lia) ?_, ?_⟩
 . intro d hd Lc cenv τ' hτ hE'; obtain ⟨k, e, he, _, _, rfl⟩ := enumD_mem hd; obtain ⟨s, hs, rfl⟩ := List.mem_map.mp he; refine as_tuple hA'.handled rfl rfl ?_; walk_at "a"; walk_at "a"; refine tests_one ?_; iterate 3 walk_at "e"
   refine ⟨.inl rfl, .fn _, ?_⟩; iterate 3 walk_at "e"
   refine kw_nil ?_; refine isEof X (hA'.le (by decide)) (tr_bool ?_); by_cases h0 : s = 0
   . refine if_t (by simp [h0]) ?_; walk_at "e"
     exact ⟨by show (if s = 0 then _ else _) = _; rw [if_pos h0], _, .none (.none .nil), rfl⟩
   . refine if_f (by simp [h0]) ?_
     exact ⟨by show (if s = 0 then _ else _) = _; rw [if_neg h0], _, .none (.none .nil), rfl⟩
 rw [hends]; refine ex3 (by walk_at "m") (by walk_at "m") ?_
 refine exs_cons (ex_asg_lc (m0 := [("first", none), ("end", none)]) [("read", c12)] rfl (by decide) hE rfl (by walk_at "s") (by decide) (allNone_of rfl) (fun _ => rfl) (by walk_at "m") rfl (by decide) ?_)
 refine evIter_call (T := "zip") ?_ rfl rfl ⟨_, _, rfl⟩; walk_at "e"; refine ⟨rfl, ?_⟩; iterate 2 walk_at "e"
 refine ev_list ?_; iterate 3 walk_at "e"
 refine ⟨szle rfl, ?_⟩; refine ev_lc (m0 := [("end", none)]) [] rfl (by decide) hE rfl (by walk_at "s") (by decide) (allNone_of rfl) (fun _ => rfl) ?_; refine evIter_of ?_; walk_at "e"; refine ⟨_, mk_list (.name _ _) hA'.handled (.inl rfl), _, core_L1 plF (by rw [plF_flat, length_map, hel, sizeLine_eq]; lia) ?_, ?_⟩
 . intro d hd Lc cenv τ' hτ hE'; obtain ⟨k, hk, rfl⟩ := List.mem_map.mp hd; walk_at "a"; refine tests_nil ?_; refine if_t rfl ?_; iterate 3 walk_at "e"
   exact bin_add ⟨rfl, _, .none .nil, rfl⟩
 rw [plF_flat]; refine bin_add_list .frozen .frozen (by rw [length_map, hel, sizeLine_eq]; simp; lia) ?_; iterate 3 walk_at "e"
 have hz := zip_ends rs 0; have hsp := spans_read rs []; rw [show ([] : List Int).length = 0 from rfl, nil_append] at hsp; have hin := spans_in rs 0; refine ⟨_, mkc_zip hA'.handled (.inl rfl) (.inl rfl), ?_⟩; show ∃ out, Core C A' _ _ _ _ _ _ _ (zipD (nA 0 :: (endsR 0 rs).map fun e => nA (e + 1)) ((endsR 0 rs).map nA)) _ /\ _; rw [hz]; refine ⟨_, core_L1 (cutF (flatR rs)) (by rw [hsp, length_map, sizeLine_eq]; lia) ?_, ?_⟩
 . intro d hd Lc cenv τ' hτ hE'; obtain ⟨p, hp, rfl⟩ := List.mem_map.mp hd; have hpb := hin p hp; refine as_tuple hA'.handled rfl rfl ?_; walk_at "a"; walk_at "a"; refine tests_nil ?_; refine if_t rfl ?_; iterate 2 walk_at "e"
   refine ⟨.inl rfl, .type _, ?_⟩; iterate 2 walk_at "e"
   refine name_free hE' (by walk_at "m") (.head _) (mem_cons_of_mem _ (hτ _ (by walk_at "m"))) ?_; refine ev_slice (ev_part_some ?_); walk_at "e"; refine ev_part_some ?_; walk_at "e"; refine ⟨some (p.1 : Int), some (p.2 : Int), .int _, .int _, fun l u hl hu => ?_⟩; refine st_list_slice .frozen (gi_list_slice .frozen hl hu (szm (by lia)) ?_); rw [cut_mid _ _ _ (by rw [length_map]; lia), <- map_drop, <- map_take]; walk_at "e"; refine kw_nil ?_; refine cv_tuple .frozen (szm (le_trans ((List.take_sublist _ _).trans (drop_sublist _ _)).length_le (le_trans hz0 (by decide)))) ?_; refine ⟨?_, _, .none (.none .nil), rfl⟩; show [tA (((flatR rs).drop ((p.1 : Int)).toNat).take (((p.2 : Int)).toNat - ((p.1 : Int)).toNat))] = _; rw [toNat_natCast, toNat_natCast]
 rw [hsp]; refine ex3 (by walk_at "m") (by walk_at "m") ?_; refine exs_cons (ex_if ?_); iterate 4 walk_at "e"
 refine cmp_ne_same (xs := rs.map tD) hu .frozen .frozen (isDats_map isDat_tup rs) (isDats_map isDat_tup rs) (ok_tups 7 rs) ⟨_, rfl, ?_⟩; refine if_f (by decide) ?_; iterate 2 walk_at "e"
 refine ev_lc (m0 := [("symbol", none)]) [] rfl (by decide) hE rfl (by walk_at "s") (by decide) (allNone_of rfl) (fun _ => rfl) ?_; refine evIter_of ?_; iterate 2 walk_at "e"
 refine ev_list ?_; iterate 7 walk_at "e"
 refine st_list (k := 4) .frozenW (gi_list .frozenW (by decide) (by decide) (e := .int d4) rfl ?_) (fun _ _ => rfl); walk_at "e"; refine bin_mod ?_ (by decide); iterate 5 walk_at "e"
 refine st_list (k := 4) .frozenW (gi_list .frozenW (by decide) (by decide) (e := .int d4) rfl ?_) (fun _ _ => rfl); refine un_neg ?_; iterate 6 walk_at "e"
 refine st_list (k := 2) .frozenW (gi_list .frozenW (by decide) (by decide) (e := .int d2) rfl ?_) (fun _ _ => rfl); refine bin_add ?_; walk_at "e"; refine ⟨szle rfl, ?_⟩; refine bin_add_list .frozen .frozen (by rw [length_map, sizeLine_eq]; simp; lia) ?_
 have hall : ∀ d ∈ (flatR rs).map AV.int ++ [AV.int 255, .int (d4 % 256), .int (-d4), .int (256 + d2)], ∃ s, d = .int s := fun d hd => by
   rcases List.mem_append.mp hd with hd | hd
   . obtain ⟨s, _, rfl⟩ := List.mem_map.mp hd; exact ⟨s, rfl⟩
   . simp only [mem_cons, not_mem_nil, or_false] at hd; rcases hd with rfl | rfl | rfl | rfl <;> exact ⟨_, rfl⟩
 have hnil : ∀ (l : List AV), l.flatMap (fun _ => ([] : List AV)) = [] := fun l => by
   induction l with
   | nil => rfl
   | cons x l ih => rw [flatMap_cons, ih]; rfl
 refine ⟨_, mk_list (.name _ _) hA'.handled (.inl rfl), _, core_L1 (fun _ => []) (by rw [hnil]; exact zero_le _) ?_, ?_⟩
 . intro d hd Lc cenv τ' hτ hE'; obtain ⟨s, rfl⟩ := hall d hd; walk_at "a"; refine tests_one ?_; iterate 4 walk_at "e"
   refine ⟨.inl rfl, .fn _, ?_⟩; iterate 3 walk_at "e"
   refine kw_nil ?_; refine isTerminal X (hA'.le (by decide)) ?_; iterate 3 walk_at "e"
   refine cmp_lt ?_; refine cmp_isnot_bool ⟨_, rfl, ?_⟩; refine if_f (by rw [bne_self_eq_false]; decide) ?_; iterate 4 walk_at "e"
   refine ⟨.inl rfl, .fn _, ?_⟩; iterate 3 walk_at "e"
   refine kw_nil ?_; refine isNonterminal X (hA'.le (by decide)) ?_; iterate 3 walk_at "e"
   refine cmp_gt ?_; refine cmp_isnot_bool ⟨_, rfl, ?_⟩; have e : decide (s ≥ 256) = decide (s > 255) := decide_eq_decide.mpr (by lia); refine if_f (by rw [e, bne_self_eq_false]; decide) ?_; iterate 4 walk_at "e"
   refine ⟨.inl rfl, .fn _, ?_⟩; iterate 3 walk_at "e"
   refine kw_nil ?_; refine isEof X (hA'.le (by decide)) ?_; iterate 3 walk_at "e"
   refine cmp_eq ?_; refine cmp_isnot_bool ⟨_, rfl, ?_⟩; refine if_f (by rw [bne_self_eq_false]; decide) ?_; refine it_or_nil ?_; refine if_f (by decide) ?_; exact ⟨rfl, _, .none .nil, rfl⟩
 rw [hnil]; refine tr_list .frozen (zero_le _) ?_; refine if_f (by decide) ?_; refine it_or_nil ?_; refine if_f (by decide) ?_; refine exs_nil ?_; exact h _ _ _ _
end
end
section
noncomputable def wayOf (d4 : Int) : Int := ([1, -1, 2, -3] : List Int).getD (d4 % 4).toNat 0
theorem way_ne (d4 : Int) : wayOf d4 ≠ 0 := by
 unfold wayOf; rcases (int4 (emB d4 (n := 4) (by decide))) with h | h | h | h <;> rw [h] <;> decide
theorem way_get (d4 : Int) : ([AV.int 1, AV.int (-1), AV.int 2, AV.int (-3)])[(d4 % 4).toNat]? = some (.int (wayOf d4)) := by
 unfold wayOf; rcases (int4 (emB d4 (n := 4) (by decide))) with h | h | h | h <;> rw [h] <;> rfl
noncomputable def szF : AV -> List AV
 | .list xs => [.int xs.length]
 | _ => []
theorem szF_flat : ∀ (found : List (List Nat)), (found.map stA).flatMap szF = found.map fun s => nA s.length
 | [] => rfl
 | s :: found => by
   rw [map_cons, flatMap_cons, szF_flat found]; show [AV.int ((s.map nA).length : Nat)] ++ _ = _; rw [length_map]; rfl
noncomputable abbrev szA (found : List (List Nat)) : AV := .list (found.map fun s => nA s.length)
noncomputable abbrev signOf (w : Int) : Int := if 0 < w then 1 else -1
section
variable {C : Cx} {A : Around} {σ : St} (X : Wd C) (I : Ki C)
include X I in
theorem law_2 (K : Sk X) (T : Tb X) {A' : Around} {env : Env} {L c1 c2 c3 c4 c11 c13 c14 : Addr} {cells : List (Str × Addr)} {ρ : List (Str × Option AV)} {τ : St} {Q : AFlow -> St -> Prop} (hA' : AOk 20 A') (hE : EnvIs env L lawNames cells) (m1 : (("sizes" : Str), c1) ∈ cells) (m2 : (("shelf" : Str), c2) ∈ cells) (m3 : (("found" : Str), c3) ∈ cells) (m4 : (("comp" : Str), c4) ∈ cells) (m11 : (("moves" : Str), c11) ∈ cells) (m13 : (("sign" : Str), c13) ∈ cells) (m14 : (("symbols" : Str), c14) ∈ cells)
   {d0 d1 d2 d3 d4 a b : Int}  {rs : List (List Int)} (ha : 7 <= a /\ a < 55) (hb : 7 <= b /\ b < 55) (hab : a ≠ b) (hlen : rs.length = 5) (hrl : ∀ r ∈ rs, r.length <= 4 /\ r ≠ [])
   (hN : ∀ fs : List (List Nat), fs.Nodup -> (∀ s ∈ fs, StateR rs [a, b, 257, 258] s) -> fs.length <= 63) (hT : (T.tM, .tab (alM X)) ∈ τ)
   (h : ∀ (w : Int) (found : List (List Nat)) (moves : List (Int × Int)) (shelf : List Row) (U D : Addr), w = wayOf d4 -> MachRes rs [a, b, 257, 258] w found moves shelf ->
     Ef C A' (execs (lawBody.drop 10) env) ((D, .list []) :: (U, .list []) :: (L, .ns (("drawn", some (wlI [d0, d1, d2, d3, d4])) :: ("told", some (lrA rs)) :: ("way", some (.int w)) :: ("before", some (.list (shelf.map rowA))) :: ("up", some (.val (.ref U))) :: ("down", some (.val (.ref D))) :: ρ)) :: (c1, .cell (some (szA found))) :: (c2, .cell (some (.list (shelf.map rowA)))) :: (c3, .cell (some (.list (found.map stA)))) :: (c4, .cell (some (compA I w))) :: (c11, .cell (some (.dict (dI moves)))) :: (c13, .cell (some (.int (signOf w)))) :: (c14, .cell (some (.list [.int a, .int b, .int 257, .int 258]))) :: τ) Q) :
   Ef C A' (execs (lawBody.drop 6) env) ((L, .ns (("drawn", some (wlI [d0, d1, d2, d3, d4])) :: ("told", some (lrA rs)) :: ("way", none) :: ("before", none) :: ("up", none) :: ("down", none) :: ρ)) :: (c1, .cell none) :: (c2, .cell none) :: (c3, .cell none) :: (c4, .cell none) :: (c11, .cell none) :: (c13, .cell none) :: (c14, .cell (some (.list [.int a, .int b, .int 257, .int 258]))) :: τ) Q := by
 walk_at "g"; walk_at "e"; refine ev_tuple ?_; iterate 5 walk_at "e"
 refine un_neg ?_; iterate 5 walk_at "e"
 refine un_neg ?_; walk_at "e"; refine ⟨szle rfl, ?_⟩; iterate 4 walk_at "e"
 refine st_list (k := 4) .frozenW (gi_list .frozenW (by decide) (by decide) (e := .int d4) rfl ?_) (fun _ _ => rfl); walk_at "e"; refine bin_mod ?_ (by decide); refine st_tuple (k := d4 % 4) (gi_tuple (mod4 _).1 (mod4 _).2 (way_get d4) ?_) (fun _ _ => rfl); walk_at "a"; obtain ⟨w, hw⟩ : ∃ w, w = wayOf d4 := ⟨_, rfl⟩; have hw0 : w ≠ 0 := hw ▸ way_ne d4; rw [<- hw]; walk_at "g"; refine ev_call_cls I ?_ rfl rfl rfl; refine name_gn hE (by walk_at "m") I.g_comp ⟨rfl, ?_⟩; walk_at "e"; refine ev_list ?_; walk_at "e"; refine ev_tuple ?_; iterate 5 walk_at "e"
 refine ⟨szle rfl, ?_⟩; walk_at "e"; refine ev_tuple ?_; iterate 5 walk_at "e"
 refine un_neg ?_; walk_at "e"; refine ⟨szle rfl, ?_⟩; walk_at "e"; refine ⟨szle rfl, ?_⟩; walk_at "e"; refine mk_comp X I (hA'.le (by decide)) ?_; walk_at "a"; walk_at "g"; iterate 2 walk_at "e"
 refine ⟨.inl rfl, .fn _, ?_⟩; iterate 7 walk_at "e"
 refine kw_nil ?_
 refine mach_call (σ := _ :: _ :: _ :: _ :: _ :: _ :: _ :: _ :: τ) (syms := [a, b, 257, 258]) X I K T (hA'.le (by decide)) (fun r hr => (hrl r hr).2) (by lia) (by lia) (fun r hr => by have := (hrl r hr).1; lia)
   (fun x hx => by
     simp only [mem_cons, not_mem_nil, or_false] at hx; rcases hx with e | e | e | e <;> rw [e]
     . exact (opB ha).imp (Int.le_trans (by decide)) id
     . exact (opB hb).imp (Int.le_trans (by decide)) id
     all_goals decide) (by simp; exact ⟨⟨hab, opN ha (by decide), opN ha (by decide)⟩, opN hb (by decide), opN hb (by decide)⟩) (le_refl _) hw0 (fun fs h1 h2 => le_trans (hN fs h1 h2) (by decide)) (by walk_at "m") fun found moves shelf hm => ?_
 refine as_tuple hA'.handled rfl rfl ?_; walk_at "a"; walk_at "a"; walk_at "a"; have hfl : found.length <= 63 := hN found hm.nd hm.ok; have hsl : shelf.length = found.length := by have := hm.perm.length_eq; rwa [length_mapIdx] at this
 walk_at "g"; refine ev_tuple ?_; iterate 3 walk_at "e"
 refine ⟨.inl rfl, .type _, ?_⟩; iterate 3 walk_at "e"
 refine kw_nil ?_; refine cv_list .frozen (szm (by lia)) ?_; walk_at "e"; refine ev_lc (m0 := [("state", none)]) [] rfl (by decide) hE rfl (by walk_at "s") (by decide) (allNone_of rfl) (fun _ => rfl) ?_; refine evIter_of ?_; walk_at "e"; have hszf := szF_flat found; refine ⟨_, mk_list (.name _ _) hA'.handled (.inl rfl), _, core_L1 szF (by rw [hszf, length_map, sizeLine_eq]; lia) ?_, ?_⟩
 . intro d hd Lc cenv τ' hτ hE'; obtain ⟨s, hs, rfl⟩ := List.mem_map.mp hd
   have hs64 : s.length <= 64 := sorted_bound (hm.ok s hs).sorted fun n hn => by
     have := stateR_lt (fun r hr => (hrl r hr).2) (fun r hr => le_trans (hrl r hr).1 (by decide)) (by rw [hlen]; decide) (hm.ok s hs) n hn
     lia
   walk_at "a"; refine tests_nil ?_; refine if_t rfl ?_; iterate 2 walk_at "e"
   refine ⟨.inl rfl, .builtin _, ?_⟩; iterate 3 walk_at "e"
   refine kw_nil ?_; exact cv_len_list .frozen (szm (by lia)) ⟨rfl, _, .none .nil, rfl⟩
 rw [hszf]; walk_at "e"; refine Ev.point (.int (signOf w)) ?_ ?_
 . walk_at "e"; refine it_cmp1 ?_ rfl; iterate 2 walk_at "e"
   refine cmp_gt ⟨_, rfl, ?_⟩; by_cases h0 : 0 < w
   . refine if_t (by simpa using h0) ?_; walk_at "e"; exact ⟨by rw [signOf, if_pos h0], rfl⟩
   . refine if_f (by simpa using h0) ?_; iterate 2 walk_at "e"
     exact un_neg ⟨by rw [signOf, if_neg h0], rfl⟩
 walk_at "e"; refine ev_list_new ?_; walk_at "e"; refine ⟨szle rfl, fun U => ?_⟩; walk_at "e"; refine ev_list_new ?_; walk_at "e"; refine ⟨szle rfl, fun D => ?_⟩; walk_at "e"; refine ⟨szle rfl, ?_⟩; refine as_tuple hA'.handled rfl rfl ?_; walk_at "a"; walk_at "a"; walk_at "a"; walk_at "a"; walk_at "a"; exact h w found moves shelf U D hw hm
end
end
section
noncomputable abbrev alL {C : Cx} (X : Wd C) : List (Pos × Str) := [(⟨222, 59, 222, 98⟩, lamQ X.law), (⟨228, 36, 228, 58⟩, lamQ X.law), (⟨229, 54, 229, 76⟩, lamQ X.law), (⟨230, 52, 230, 74⟩, lamQ X.law), (⟨232, 40, 232, 120⟩, lamQ X.law)]
theorem alL_q {C : Cx} (X : Wd C) {p : Pos} {q : Str} (h : (p, q) ∈ alL X) : q = lamQ X.law := by
 simp only [mem_cons, Prod.mk.injEq, not_mem_nil, or_false] at h; rcases h with ⟨_, h⟩ | ⟨_, h⟩ | ⟨_, h⟩ | ⟨_, h⟩ | ⟨_, h⟩ <;> exact h
theorem row_dats (l : List Row) : IsDats (l.map rowA) (l.map fun r => tD [r.1, r.2.1, r.2.2]) := isDats_map (f := rowA) (g := fun r : Row => tD [r.1, r.2.1, r.2.2]) (fun r => isDat_tup [r.1, r.2.1, r.2.2]) l
theorem row_ok (l : List Row) : ∀ d ∈ l.map (fun r : Row => tD [r.1, r.2.1, r.2.2]), kqdOk 8 d = true := fun d hd => by
 obtain ⟨r, _, rfl⟩ := List.mem_map.mp hd; exact ok_tup 7 _
section
variable {C : Cx} {A : Around} {σ : St} (X : Wd C) (I : Ki C)
include X I in
theorem lam_first {fd : FuncData} {params : Arguments} {body : Expr} {sc : Scope} {q : Str} {c1 c2 : Addr} {w : Int} {r0 r : Row}
   (hl : LamFd fd params body sc q [("comp", c1), ("shelf", c2)]) (cs : LamScope sc) (hb : ∀ fd : FuncData, fd.params = params -> fd.defaults = .none -> fd.kwdefaults = .none -> ∀ v, bindArgs fd ⟨[v], []⟩ = pure [(("row" : Str), v)]) (hr : (("row" : Str), NameKind.local) ∈ sc.names)
   {τ : St} {A2 : Around} {Q2 : AV -> St -> Prop} {n : Nat} (hA2 : AOk (n + 2) A2)
   (hev : ∀ {L : Addr} {A' : Around} {env : Env} {Q : AV -> St -> Prop}, AOk (n + 1) A' -> EnvIs env L sc.names [("comp", c1), ("shelf", c2)] -> Q (.int (cmpOf w (r.1, r.2.1) (r0.1, r0.2.1))) ((L, .ns [("row", some (rowA r))]) :: τ) -> Ev C A' (eval body env) ((L, .ns [("row", some (rowA r))]) :: τ) Q)
   (hq : Q2 (.int (cmpOf w (r.1, r.2.1) (r0.1, r0.2.1))) τ) : CallV C A2 (.fn fd) [rowA r] [] τ Q2 := by
 refine callV_lam (m0 := [("row", some (rowA r))]) X.G hA2 hl cs hb hr (show (["row"] : List Str).Nodup by decide) (fun y av h => by rw [mem_singleton] at h; cases h; exact ⟨rfl, rfl⟩) ?_; intro L A'' env hA'' hE; exact hev hA'' hE ⟨_, sublist_cons_self _ _, hq⟩
noncomputable abbrev ns3 (ρ : List (Str × Option AV)) (l5 : List Int) (shelf : List Row) (o4 o5 : Option AV) : List (Str × Option AV) := ("drawn", some (wlI l5)) :: ("before", some (.list (shelf.map rowA))) :: ("search", o4) :: ("refused", o5) :: ρ
inductive L3I (L : Addr) (ρ : List (Str × Option AV)) (l5 : List Int) (shelf : List Row) (pre : List FuncData) (τ : St) : St -> Prop
 | mk (o : Option AV) : L3I L ρ l5 shelf pre τ ((L, .ns (ns3 ρ l5 shelf o none)) :: τ)
theorem L3I.par {L : Addr} {ρ : List (Str × Option AV)} {l5 : List Int} {shelf : List Row} {pre : List FuncData} : Par (L3I L ρ l5 shelf pre) := fun τ σ h => by
 cases h with | mk o => exact ⟨[_], rfl, fun τ' => .mk o⟩
include X I in
theorem law_3 (K : Sk X) (T : Tb X) {A' : Around} {env : Env} {L c2 c4 : Addr} {cells : List (Str × Addr)} {ρ : List (Str × Option AV)} {τ : St} {Q : AFlow -> St -> Prop} (hA' : AOk 20 A') (hE : EnvIs env L lawNames cells) (m2 : (("shelf" : Str), c2) ∈ cells) (m4 : (("comp" : Str), c4) ∈ cells)
   (hfr : A'.frames = some [env]) (hff : env.frame = some L) (hcode : env.code = X.law.code) (hqual : env.qual = X.law.qualname ++ ".<locals>.") (hT : (T.tL, .tab (alL X)) ∈ τ) (hρ : ("refused" : Str) ∉ ρ.map (·.1))
   {d0 d1 d2 d3 d4 w : Int} {shelf : List Row} (h4 : 0 <= d4) (hne : shelf ≠ []) (hz : shelf.length <= 63)
   (h : ∀ o4, Ef C A' (execs (lawBody.drop 11) env) ((L, .ns (ns3 ρ [d0, d1, d2, d3, d4] shelf o4 none)) :: (c2, .cell (some (.list (shelf.map rowA)))) :: (c4, .cell (some (compA I w))) :: τ) Q) :
   Ef C A' (execs (lawBody.drop 10) env) ((L, .ns (ns3 ρ [d0, d1, d2, d3, d4] shelf none none)) :: (c2, .cell (some (.list (shelf.map rowA)))) :: (c4, .cell (some (compA I w))) :: τ) Q := by
 obtain ⟨r0, rt, hsh⟩ : ∃ r0 rt, shelf = r0 :: rt := by cases shelf with
   | nil => exact absurd rfl hne
   | cons r t => exact ⟨r, t, rfl⟩
 have hs0 : (shelf.map rowA)[(0 : Int).toNat]? = some (rowA r0) := by rw [hsh]; rfl
 have hu : A'.units + 64 < cLine := hA'.eqRoom; have hm4 : -1 - d4 % 3 < 0 := by omega
 refine exs_cons ?_; refine ex_forP (τ := (c2, .cell (some (.list (shelf.map rowA)))) :: (c4, .cell (some (compA I w))) :: τ) [X.bisL, X.bisR, X.insL, X.insR] (fun _ f => .fn f) (L3I L ρ [d0, d1, d2, d3, d4] shelf) (fun _ _ => False) (fun _ _ _ => False) (fun _ => L3I.par) Par.no (fun _ => Par.no) ?_ ?_ ?_ (fun _ _ h => h.elim) (fun _ => rfl)
 . refine evIter_of ?_; refine ev_tuple ?_; iterate 9 walk_at "e"
   refine ⟨szle rfl, ?_⟩; exact ⟨_, mk_tuple (.name _ _) hA'.handled, rfl, .mk none⟩
 . intro pre f post σ₁ τ' hτ hl hI KF hKF; cases hI; have hfm : f ∈ [X.bisL, X.bisR, X.insL, X.insR] := by rw [hl]; exact mem_append_right _ mem_cons_self
   have k2 : (c2, AEnt.cell (some (.list (shelf.map rowA)))) ∈ τ' := hτ _ (.head _); have k4 : (c4, AEnt.cell (some (compA I w))) ∈ τ' := hτ _ (.tail _ (.head _)); have kT : (T.tL, AEnt.tab (alL X)) ∈ τ' := hτ _ (.tail _ (.tail _ hT)); walk_at "a"; refine exs_cons (ex_try (L := L) (msg := loMsg) (m := ns3 ρ [d0, d1, d2, d3, d4] shelf (some (.fn f)) none) (m1 := fun v => ns3 ρ [d0, d1, d2, d3, d4] shelf (some (.fn f)) (some (.val v))) (σ1 := fun v => (L, .ns (ns3 ρ [d0, d1, d2, d3, d4] shelf (some (.fn f)) (some (.val v)))) :: τ') hfr hff hE (by walk_at "m") (by walk_at "m") X.g_ValueError ?_ ?_ (fun v => by walk_at "m") (fun v => by walk_at "m") ?_ ?_)
   . refine exsF_cons (exF_expr ?_ hE rfl)
     have hF : FrsIn [env] ((L, .ns (ns3 ρ [d0, d1, d2, d3, d4] shelf (some (.fn f)) none)) :: τ') := fun e he => by
       rw [List.mem_singleton.mp he]; exact ⟨hE.kind, L, _, hff, .head _⟩
     refine evR_call ?_ rfl rfl ⟨_, _, rfl⟩; walk_at "e"; refine ⟨_, rfl, ?_⟩; iterate 6 walk_at "e"
     refine st_list (k := 0) .frozen (gi_list .frozen (by decide) (by decide) hs0 ?_) (fun _ _ => rfl); iterate 4 walk_at "e"
     refine un_neg ?_; iterate 4 walk_at "e"
     refine st_list (k := 4) .frozenW (gi_list .frozenW (by decide) (by decide) (e := .int d4) rfl ?_) (fun _ _ => rfl); walk_at "e"; refine bin_mod ?_ (by decide); refine bin_sub ?_; walk_at "e"; refine kw_cons ?_; refine ev_lambda (cells' := [("comp", c4), ("shelf", c2)]) X.GB (compScope_of (by decide)) hE (hcode ▸ T.cL) (by walk_at "m") (by rw [hqual]; exact List.Mem.head _) (fun p' q' h _ _ => by rw [hqual]; exact alL_q X h) rfl rfl (free_ok (cells' := [("comp", c4), ("shelf", c2)]) rfl (by walk_at "s")).1 (free_ok (cells' := [("comp", c4), ("shelf", c2)]) rfl (by walk_at "s")).2 fun fd hfd => ?_; refine kw_nil ?_; refine ⟨rfl, ?_⟩
     have key := fun (A2 : Around) (τ2 : St) (Q2 : AV -> St -> Prop) (hA2 : AOk 5 A2) (hs2 : ∀ q ∈ ((L, AEnt.ns (ns3 ρ [d0, d1, d2, d3, d4] shelf (some (.fn f)) none)) :: τ'), q ∈ τ2) (hq2 : Q2 (.int (cmpOf w (r0.1, r0.2.1) (r0.1, r0.2.1))) τ2) => lam_first (n := 3) (w := w) (r0 := r0) (r := r0) X I hfd ⟨compScope_of (by decide), rfl, rfl⟩ (fun fd e1 e2 e3 v => by
           obtain ⟨_, _, _, _, _, _, _, _, _, _, _, _, _, _, _⟩ := fd; dsimp only at e1 e2 e3; subst e1 e2 e3
           rfl) (by walk_at "m") hA2 (fun {L' A'' env' Q'} hA'' hE' hq' => by
           refine ev_mcall ?_ rfl rfl ⟨_, _, rfl⟩; refine name_free hE' (by walk_at "m") (by walk_at "m") (mem_cons_of_mem _ (hs2 _ (by walk_at "m"))) ?_; refine ⟨_, _, meth_cmp I, .fn _, ?_⟩; iterate 4 walk_at "e"
           refine name_free hE' (by walk_at "m") (by walk_at "m") (mem_cons_of_mem _ (hs2 _ (by walk_at "m"))) ?_; walk_at "e"; refine st_list (k := 0) .frozen (gi_list .frozen (by decide) (by decide) hs0 ?_) (fun _ _ => rfl); walk_at "e"; refine kw_nil ?_; exact cmp_call X I (hA''.le (by decide)) hq') hq2
     rcases List.mem_cons.mp hfm with e | hfm
     . rw [e]; exact bisL_raise (n := 5) X K.bL (hA'.le (by decide)) hfr (e ▸ hF) hm4
     rcases List.mem_cons.mp hfm with e | hfm
     . rw [e]; exact bisR_raise (n := 5) X K.bR (hA'.le (by decide)) hfr (e ▸ hF) hm4
     rcases List.mem_cons.mp hfm with e | hfm
     . rw [e]; exact insL_raise (n := 5) X K.iL K.bL (hA'.le (by decide)) hfr (e ▸ hF) hm4 (e ▸ key)
     . rw [List.mem_singleton.mp hfm]; exact insR_raise (n := 5) X K.iR K.bR (hA'.le (by decide)) hfr (List.mem_singleton.mp hfm ▸ hF) hm4 (List.mem_singleton.mp hfm ▸ key)
   . intro av hx; rcases List.mem_cons.mp hx with e | hx
     . cases e
     rcases List.mem_cons.mp hx with e | hx
     . cases e
     rcases List.mem_cons.mp hx with e | hx
     . cases e
     rcases List.mem_cons.mp hx with e | hx
     . cases e
     . exact hρ (mem_map_of_mem (f := (·.1)) hx)
   . intro ea et oe ot k u nt hc hd h0 htc htd; refine exs_cons (ex_if ?_); iterate 4 walk_at "e"
     refine ⟨.inl rfl, .type _, ?_⟩; iterate 3 walk_at "e"
     refine kw_nil ?_; refine cv_str_exc (by show A'.units + 2 < cLine; lia) (by walk_at "m") (by walk_at "m") hc hd h0 htc htd ?_; walk_at "e"; refine cmp_ne_str ⟨_, rfl, ?_⟩; refine if_f (by rw [bne_self_eq_false]; decide) ?_; iterate 4 walk_at "e"
     refine cmp_ne_same (xs := shelf.map fun r => tD [r.1, r.2.1, r.2.2]) hu .frozen .frozen (row_dats shelf) (row_dats shelf) (row_ok shelf) ⟨_, rfl, ?_⟩; refine if_f (by decide) ?_; refine it_or_nil ?_; refine if_f (by decide) ?_; exact exs_nil (exs_nil ⟨rfl, rfl⟩)
   . exact exs_nil (hKF _ _ ⟨_, .refl _, .mk _⟩)
 . intro σ₁ h'; replace h' := h'.resolve_right id; cases h'; exact h _
end
end
section
theorem perm_sorted_eq {α : Type} {R : α -> α -> Prop} (asymm : ∀ a b, R a b -> R b a -> False) : ∀ {l m : List α}, l.Perm m -> l.Pairwise R -> m.Pairwise R -> l = m
 | [], m, hp, _, _ => hp.nil_eq
 | a :: l, m, hp, h1, h2 => by
   cases m with
   | nil => exact absurd hp.length_eq (by simp)
   | cons b m =>
     rw [pairwise_cons] at h1 h2
     have e : a = b := by
       have ha : a ∈ b :: m := hp.mem_iff.mp mem_cons_self; have hb : b ∈ a :: l := hp.mem_iff.mpr mem_cons_self; rcases List.mem_cons.mp ha with e | ha
       . exact e
       . rcases List.mem_cons.mp hb with e | hb
         . exact e.symm
         . exact (asymm _ _ (h1.1 b hb) (h2.1 a ha)).elim
     subst e; rw [perm_sorted_eq asymm (List.perm_cons a |>.mp hp) h1.2 h2.2]
section
variable {ka kb : Nat -> Int}
theorem kLe_asymm (i j : Nat) (h : kLe ka kb i j) (h' : kLe ka kb j i) : False := lt_irrefl i (kLe_same_lt (kLe_trans h h'))
noncomputable abbrev zr : Nat -> Int := fun _ => 0
theorem kz_le {i j : Nat} (h : kLe ka zr i j) : ka i <= ka j := h.elim Int.le_of_lt fun x => Int.le_of_eq x.1
theorem kz_of {i j : Nat} (h : ka i <= ka j) (hij : i < j) : kLe ka zr i j := (Int.lt_or_eq_of_le h).imp id fun e => ⟨e, .inr ⟨rfl, hij⟩⟩
theorem up_ins {u : List Nat} {x r : Nat} (hs : u.Pairwise (kLe ka zr)) (hx : ∀ i ∈ u, i < x) (hc : Cut (fun i => !decide (ka x < ka (u.getD i 0))) u.length r) : (u.take r ++ x :: u.drop r).Pairwise (kLe ka zr) := by
 exact ins_pairwise hs (fun a ha => kz_of (Int.not_lt.mp (of_nd_t (Cut.lo (q := fun n => !decide (ka x < ka n)) hc ha))) (hx a (mem_of_mem_take ha))) fun b hb => .inl (of_nd_f (Cut.hi (q := fun n => !decide (ka x < ka n)) hc hb))
theorem up_cut {u : List Nat} {x : Nat} (hs : u.Pairwise (kLe ka zr)) : ∃ r, Cut (fun i => !decide (ka x < ka (u.getD i 0))) u.length r :=
 cut_of (q := fun n => !decide (ka x < ka n)) (hs.imp fun h q => by
   rw [Bool.not_eq_true', decide_eq_false_iff_not] at q ⊢; exact fun y => q (Int.lt_of_lt_of_le y (kz_le h)))
theorem dn_ins {u : List Nat} {x r : Nat} (hs : u.Pairwise (kLe ka zr)) (hx : ∀ i ∈ u, x < i) (hc : Cut (fun i => decide (ka (u.getD i 0) < ka x)) u.length r) : (u.take r ++ x :: u.drop r).Pairwise (kLe ka zr) := by
 exact ins_pairwise hs (fun a ha => .inl (of_decide_eq_true (Cut.lo (q := fun n => decide (ka n < ka x)) hc ha))) fun b hb => kz_of (Int.not_lt.mp (of_decide_eq_false (Cut.hi (q := fun n => decide (ka n < ka x)) hc hb))) (hx b (mem_of_mem_drop hb))
theorem dn_cut {u : List Nat} {x : Nat} (hs : u.Pairwise (kLe ka zr)) : ∃ r, Cut (fun i => decide (ka (u.getD i 0) < ka x)) u.length r :=
 cut_of (q := fun n => decide (ka n < ka x)) (hs.imp fun h q => decide_eq_true (Int.lt_of_le_of_lt (kz_le h) (of_decide_eq_true q)))
end
theorem ok_list (n : Nat) (l : List Int) : kqdOk (n + 1) (.list (l.map Dat.int)) = true := by
 show (l.map Dat.int).all (kqdOk n) = true; rw [List.all_eq_true]; exact ok_ints n l
theorem isDat_list (l : List Int) : IsDat (.list (l.map AV.int)) (.list (l.map Dat.int)) := .list (isDats_ints l)
section
variable {C : Cx} {A : Around} {σ : St}
theorem Wp.frz2 {α β : Type} {Rl : Pool -> α -> β -> Prop} {t : Sem α} {R1 R2 L : Addr} {d1 d2 : List AV} {x1 x2 : Str} {m m1 m2 : List (Str × Option AV)} {Q : β -> St -> Prop} (hm1 : SetM m x1 (.list d1) m1) (hm2 : SetM m1 x2 (.list d2) m2) (hx1 : (x1, some (.val (.ref R1))) ∈ m) (hx2 : (x2, some (.val (.ref R2))) ∈ m1)
   (h : Wp Rl C A t ((L, .ns m2) :: σ) Q) : Wp Rl C A t ((R2, .list d2) :: (R1, .list d1) :: (L, .ns m) :: σ) Q := by
 refine Wp.perm (σ' := (R1, .list d1) :: (L, .ns m) :: (R2, .list d2) :: σ) (Wp.frz_loc hm1 hx1 (Wp.perm (σ' := (R2, .list d2) :: (L, .ns m1) :: σ) (Wp.frz_loc hm2 hx2 h) (List.Perm.swap _ _ _))) ?_; exact ((List.Perm.swap _ _ _).cons _).trans (List.Perm.swap _ _ _)
end
end
section
noncomputable def szK (found : List (List Nat)) (i : Nat) : Int := ((found.getD i []).length : Nat)
section
variable {C : Cx} {A : Around} {σ : St} (X : Wd C) (I : Ki C)
theorem sz_get {value slice : Expr} {found : List (List Nat)} {i : Nat} (hi : i < found.length) (hQ : Q (.int (szK found i)) σ) (hs : ∀ o i, subscripted slice false o i = operate [o, i] (getItem o i) := by exact fun _ _ => rfl) (hb : i < 2 ^ 63 := by lia) :
   Op2 VR C A (subscriptTail value slice) (szA found) (nA i) σ Q := by
 refine st_list (k := (i : Int)) .frozen (gi_list .frozen (by lia) (by lia) (e := .int (szK found i)) ?_ hQ) hs; rw [toNat_natCast, getElem?_map, getElem?_eq_getElem hi]; have : found.getD i [] = found[i] := by rw [getD_eq_getElem?_getD, getElem?_eq_getElem hi]; rfl
 unfold szK; rw [this]; rfl
include X in
theorem key_size {fd : FuncData} {c1 : Addr} {p1 p2 p3 q1 : Pos} {sc : Scope} {qn : Str} {found : List (List Nat)} {j : Nat} (hfd : LamFd fd ⟨[], [⟨"one", none, q1⟩], none, [], [], none, []⟩ (.Subscript (.Name "sizes" p1) (.Name "one" p2) p3) sc qn [("sizes", c1)]) (hsc : LamScope sc)
   (hsn : sc.names = ([("one", .local), ("sizes", .free)] : List (Str × NameKind))) {τ : St} (k1 : (c1, AEnt.cell (some (szA found))) ∈ τ) (hj : j < found.length) (hf1 : found.length <= 63) {A2 : Around} {Q2 : AV -> St -> Prop} {n : Nat} (hA2 : AOk (n + 1) A2) (hq : Q2 (.int (szK found j)) τ) : CallV C A2 (.fn fd) [nA j] [] τ Q2 := by
 refine callV_lam (m0 := [("one", some (nA j))]) X.G hA2 hfd hsc (fun fd e1 e2 e3 v => ?_) (by rw [hsn]; exact .head _) (show (["one"] : List Str).Nodup by decide) (fun y av h => by rw [mem_singleton] at h; cases h; exact ⟨rfl, rfl⟩) ?_
 . obtain ⟨_, _, _, _, _, _, _, _, _, _, _, _, _, _, _⟩ := fd; dsimp only at e1 e2 e3; subst e1 e2 e3; rfl
 . intro L A'' env hA'' hE; rw [hsn] at hE; walk_at "e"; refine name_free hE (by walk_at "m") (.head _) (mem_cons_of_mem _ k1) ?_; walk_at "e"; exact sz_get (i := j) hj ⟨_, sublist_cons_self _ _, hq⟩
include X in
theorem keyOk_size {fd : FuncData} {c1 : Addr} {p1 p2 p3 q1 : Pos} {sc : Scope} {qn : Str} {found : List (List Nat)} (hfd : LamFd fd ⟨[], [⟨"one", none, q1⟩], none, [], [], none, []⟩ (.Subscript (.Name "sizes" p1) (.Name "one" p2) p3) sc qn [("sizes", c1)]) (hsc : LamScope sc)
   (hsn : sc.names = ([("one", .local), ("sizes", .free)] : List (Str × NameKind))) {σk : St} (k1 : (c1, AEnt.cell (some (szA found))) ∈ σk) (hf1 : found.length <= 63) {u : List Nat} (hu : ∀ i ∈ u, i < found.length) : KeyOk C 2 σk (.fn fd) (u.map nA) (fun i => szK found (u.getD i 0)) := by
 refine ⟨⟨_, rfl⟩, fun A2 τ2 Q2 i d hA2 hτ2 hd hq => ?_⟩; rw [getElem?_map] at hd; obtain ⟨j, hj, e⟩ := Option.map_eq_some_iff.mp hd; rw [<- e]; have hq : Q2 (.int (szK found (u.getD i 0))) τ2 := hq; rw [show u.getD i 0 = j by rw [getD_eq_getElem?_getD, hj]; rfl] at hq; exact key_size X hfd hsc hsn (hτ2 _ k1) (hu j (mem_of_getElem? hj)) hf1 hA2 hq
inductive L4I (found : List (List Nat)) (U D L : Addr) (ρ : List (Str × Option AV)) (pre : List Nat) (τ : St) : St -> Prop
 | mk (u v : List Nat) (o : Option AV) (hup : u.Perm pre) (hus : u.Pairwise (kLe (szK found) zr)) (hvp : v.Perm (range' (found.length - pre.length) pre.length)) (hvs : v.Pairwise (kLe (szK found) zr)) :
   L4I found U D L ρ pre τ ((D, .list (v.map nA)) :: (U, .list (u.map nA)) :: (L, .ns (("place", o) :: ("up", some (.val (.ref U))) :: ("down", some (.val (.ref D))) :: ρ)) :: τ)
theorem L4I.par {found : List (List Nat)} {U D L : Addr} {ρ : List (Str × Option AV)} {pre : List Nat} : Par (L4I found U D L ρ pre) := fun τ σ h => by
 cases h with | mk u v o a b c d => exact ⟨[_, _, _], rfl, fun τ' => .mk u v o a b c d⟩
theorem nat_lst (n : Nat) : (List.range n).map (fun i : Nat => AV.int i) = lst (fun _ (i : Nat) => .int i) 0 (List.range n) := lst_map (fun i : Nat => AV.int i) 0 _
theorem up_perm {u : List Nat} {k r : Nat} (h : u.Perm (List.range k)) : (u.take r ++ k :: u.drop r).Perm (List.range k ++ [k]) :=
 (ins_perm u k r).trans ((h.cons k).trans (List.perm_append_comm (l₁ := [k])))
theorem dn_perm {v : List Nat} {n k r : Nat} (hk : k < n) (h : v.Perm (range' (n - k) k)) : (v.take r ++ (n - 1 - k) :: v.drop r).Perm (range' (n - (List.range k ++ [k]).length) (List.range k ++ [k]).length) := by
 refine (ins_perm v _ r).trans ?_; rw [length_append, length_range, length_singleton, show n - (k + 1) = n - 1 - k by rw [Nat.sub_right_comm]; rfl, List.range'_succ, show n - 1 - k + 1 = n - k by rw [Nat.sub_right_comm]; exact sub_add_cancel (Nat.sub_pos_of_lt hk)]; exact h.cons _
theorem map_ins (u : List Nat) (k r : Nat) : (u.map nA).take r ++ nA k :: (u.map nA).drop r = (u.take r ++ k :: u.drop r).map nA := by
 rw [map_append, map_cons, map_take, map_drop]
include X I in
theorem law_4 (K : Sk X) (T : Tb X) {A' : Around} {env : Env} {L c1 c3 : Addr} {cells : List (Str × Addr)} {ρ : List (Str × Option AV)} {τ : St} {Q : AFlow -> St -> Prop} (hA' : AOk 20 A') (hE : EnvIs env L lawNames cells) (m1 : (("sizes" : Str), c1) ∈ cells) (m3 : (("found" : Str), c3) ∈ cells)
   (hcode : env.code = X.law.code) (hqual : env.qual = X.law.qualname ++ ".<locals>.") (hT : (T.tL, .tab (alL X)) ∈ τ) {found : List (List Nat)} {U D : Addr} (hf1 : found.length <= 63)
   (h : ∀ o5 o6 o7, Ef C A' (execs (lawBody.drop 13) env) ((L, .ns (("place", o5) :: ("up", o6) :: ("down", o7) :: ρ)) :: (c1, .cell (some (szA found))) :: (c3, .cell (some (.list (found.map stA)))) :: τ) Q) :
   Ef C A' (execs (lawBody.drop 11) env) ((D, .list []) :: (U, .list []) :: (L, .ns (("place", none) :: ("up", some (.val (.ref U))) :: ("down", some (.val (.ref D))) :: ρ)) :: (c1, .cell (some (szA found))) :: (c3, .cell (some (.list (found.map stA)))) :: τ) Q := by
 have hu : A'.units + 64 < cLine := hA'.eqRoom; have hzf : (found.map stA).length <= sizeLine := szm (le_trans hf1 (by decide)); have hfo := free_ok (sn := [("one", .local), ("sizes", .free)]) (cells' := [("sizes", c1)]) (cells := cells) rfl (sub_cons m1 sub_nil); refine exs_cons ?_; refine ex_forP (τ := (c1, .cell (some (szA found))) :: (c3, .cell (some (.list (found.map stA)))) :: τ) (List.range found.length) (fun _ i => .int i) (L4I found U D L ρ) (fun _ _ => False) (fun _ _ _ => False) (fun _ => L4I.par) Par.no (fun _ => Par.no) ?_ ?_ ?_ (fun _ _ h => h.elim) (fun _ => rfl)
 . refine evIter_of ?_; iterate 2 walk_at "e"
   refine ⟨.inl rfl, .type _, ?_⟩; iterate 3 walk_at "e"
   refine ⟨.inl rfl, .builtin _, ?_⟩; iterate 3 walk_at "e"
   refine kw_nil ?_; refine cv_len_list .frozen hzf ?_; rw [length_map]; walk_at "e"; refine kw_nil ?_; refine cv_range fun t u v => ?_; exact ⟨_, mk_range (.name _ _) hA'.handled (le_trans hf1 (by decide)), nat_lst _, .mk [] [] none (List.Perm.refl _) .nil (List.Perm.refl _) .nil⟩
 . rintro pre k post _ τ' hτ hl ⟨u, v, o, hup, hus, hvp, hvs⟩ KF hKF; obtain ⟨e0, hkl⟩ := range_split hl; rw [e0] at hup hvp hKF; rw [length_range] at hvp; have hul : u.length = k := by rw [hup.length_eq, length_range]
   have hvl : v.length = k := by rw [hvp.length_eq, List.length_range']
   have hux : ∀ i ∈ u, i < k := fun i hi => List.mem_range.mp (hup.mem_iff.mp hi); have hum : ∀ i ∈ u, i < found.length := fun i hi => lt_trans (hux i hi) hkl
   have hvm : ∀ i ∈ v, i < found.length /\ found.length - 1 - k < i := fun i hi => by
     have := List.mem_range'_1.mp (hvp.mem_iff.mp hi); rw [sub_add_cancel (le_of_lt hkl)] at this; exact ⟨this.2, lt_of_lt_of_le (by rw [Nat.sub_right_comm]; exact sub_lt (Nat.sub_pos_of_lt hkl) one_pos) this.1⟩
   have k1 : (c1, AEnt.cell (some (szA found))) ∈ τ' := hτ _ (.head _); have k3 : (c3, AEnt.cell (some (.list (found.map stA)))) ∈ τ' := hτ _ (.tail _ (.head _)); have kT : (T.tL, AEnt.tab (alL X)) ∈ τ' := hτ _ (.tail _ (.tail _ hT)); have hk16 : k <= 16777216 := le_trans (le_of_lt hkl) (le_trans hf1 (by decide)); obtain ⟨rup, hrup⟩ := up_cut (ka := szK found) (x := k) hus; obtain ⟨k', hk'⟩ : ∃ k', k' = found.length - 1 - k := ⟨_, rfl⟩; have hn1 : 1 <= found.length := lt_of_le_of_lt (zero_le _) hkl; have hk'l : k' < found.length := hk' ▸ lt_of_le_of_lt (sub_le _ _) (sub_lt hn1 one_pos); obtain ⟨rdown, hrdown⟩ := dn_cut (ka := szK found) (x := k') hvs; walk_at "a"; refine exs_cons (ex_expr ?_ hE rfl); iterate 2 walk_at "e"
   refine ⟨.inr (fun T h => by cases h), .fn _, ?_⟩; iterate 5 walk_at "e"
   refine kw_cons ?_; refine ev_lambda (cells' := [("sizes", c1)]) X.GB (compScope_of (by decide)) hE (hcode ▸ T.cL) (by walk_at "m") (by rw [hqual]; walk_at "m") (fun p' q' h _ _ => by rw [hqual]; exact alL_q X h) rfl rfl hfo.1 hfo.2 fun fu hfu => ?_; refine kw_nil ?_
   refine insR_call (n := 2) (key := .fn fu) (ks := [(("key" : Str), AV.fn fu)]) (x := szK found k) (ds := u.map nA) (p := fun i => !decide (szK found k < szK found (u.getD i 0))) (kv := fun i => szK found (u.getD i 0)) (r := rup) X K.iR K.bR (hA'.le (by decide)) (by walk_at "m") (szm (by rw [hul]; exact hk16))
     (.inr ⟨rfl, keyOk_size X hfu ⟨compScope_of (by decide), rfl, rfl⟩ rfl (by walk_at "m") hf1 hum, fun A2 τ2 Q2 hA2 hτ2 hq => key_size X hfu ⟨compScope_of (by decide), rfl, rfl⟩ rfl (hτ2 _ (by walk_at "m")) hkl hf1 hA2 hq⟩) (fun i hi => rfl) (by rw [length_map]; exact hrup) ⟨rfl, ?_⟩
   rw [map_ins]; refine exs_cons (ex_expr ?_ hE rfl); iterate 2 walk_at "e"
   refine ⟨.inr (fun T h => by cases h), .fn _, ?_⟩; iterate 7 walk_at "e"
   refine ⟨.inl rfl, .builtin _, ?_⟩; iterate 3 walk_at "e"
   refine kw_nil ?_; refine cv_len_list .frozen hzf ?_; rw [length_map]; walk_at "e"; refine bin_sub ?_; walk_at "e"; refine bin_sub ?_; rw [show (found.length : Int) - 1 - k = (k' : Int) by rw [hk', Int.ofNat_sub (le_sub_one_of_lt hkl), Int.ofNat_sub hn1]; rfl]; walk_at "e"; refine kw_cons ?_; refine ev_lambda (cells' := [("sizes", c1)]) X.GB (compScope_of (by decide)) hE (hcode ▸ T.cL) (by walk_at "m") (by rw [hqual]; walk_at "m") (fun p' q' h _ _ => by rw [hqual]; exact alL_q X h) rfl rfl hfo.1 hfo.2 fun fv hfv => ?_; refine kw_nil ?_
   refine insL_call (n := 2) (key := .fn fv) (ks := [(("key" : Str), AV.fn fv)]) (x := szK found k') (ds := v.map nA) (p := fun i => decide (szK found (v.getD i 0) < szK found k')) (kv := fun i => szK found (v.getD i 0)) (r := rdown) X K.iL K.bL (hA'.le (by decide)) (by walk_at "m") (szm (by rw [hvl]; exact hk16))
     (.inr ⟨rfl, keyOk_size X hfv ⟨compScope_of (by decide), rfl, rfl⟩ rfl (by walk_at "m") hf1 fun i hi => (hvm i hi).1, fun A2 τ2 Q2 hA2 hτ2 hq => key_size X hfv ⟨compScope_of (by decide), rfl, rfl⟩ rfl (hτ2 _ (by walk_at "m")) hk'l hf1 hA2 hq⟩) (fun i hi => rfl) (by rw [length_map]; exact hrdown) ⟨rfl, ?_⟩
   rw [map_ins]; exact exs_nil (hKF _ _ ⟨_, .refl _, .mk _ _ _ (up_perm hup) (up_ins hus hux hrup) (hk' ▸ dn_perm hkl hvp) (dn_ins hvs (fun i hi => hk' ▸ (hvm i hi).2) hrdown)⟩)
 . intro σ₁ h'; replace h' := h'.resolve_right id; obtain ⟨u, v, o, hup, hus, hvp, hvs⟩ := h'; rw [length_range, sub_self, <- List.range_eq_range'] at hvp; have huv : u = v := perm_sorted_eq kLe_asymm (hup.trans hvp.symm) hus hvs; rw [<- huv]; have hul : u.length = found.length := by rw [hup.length_eq, length_range]
   refine Wp.frz2 (x1 := "up") (x2 := "down") (m := _ :: _ :: _ :: ρ) (by walk_at "m") (by walk_at "m") (by walk_at "m") (by walk_at "m") ?_; refine exs_cons (ex_if ?_); walk_at "e"; refine ev_list ?_; iterate 5 walk_at "e"
   refine ⟨szle rfl, ?_⟩; walk_at "e"; refine ev_list ?_; iterate 3 walk_at "e"
   refine ⟨.inr (fun T h => by cases h), .builtin _, ?_⟩; iterate 3 walk_at "e"
   refine ⟨.inl rfl, .type _, ?_⟩; iterate 3 walk_at "e"
   refine ⟨.inl rfl, .builtin _, ?_⟩; iterate 3 walk_at "e"
   refine kw_nil ?_; refine cv_len_list .frozen hzf ?_; rw [length_map]; walk_at "e"; refine kw_nil ?_; refine cv_range fun t1 t2 t3 => ?_; walk_at "e"; refine kw_cons ?_; refine ev_lambda (cells' := [("sizes", c1)]) X.GB (compScope_of (by decide)) hE (hcode ▸ T.cL) (by walk_at "m") (by rw [hqual]; walk_at "m") (fun p' q' h _ _ => by rw [hqual]; exact alL_q X h) rfl rfl hfo.1 hfo.2 fun fd hfd => ?_; refine kw_nil ?_; refine cv_sorted_key (ds := (List.range found.length).map fun (i : Nat) => AV.int i) (tp := false) (ka := szK found) (kb := zr) (coll_range (A := A'.in1) (n := found.length) hA'.handled (by lia)) (by rw [length_map, length_range]; lia) (fun _ _ => rfl) ⟨_, rfl⟩ (fun i e τ2 Q2 he hτ2 hq => ?_) fun p hp1 hp2 => ?_
   . obtain ⟨hi, rfl⟩ : i < found.length /\ e = nA i := by
       rw [getElem?_map] at he; obtain ⟨j, hj, rfl⟩ := Option.map_eq_some_iff.mp he; obtain ⟨h1, h2⟩ := List.getElem?_eq_some_iff.mp hj; rw [List.getElem_range] at h2; rw [length_range] at h1; rw [<- h2]; exact ⟨h1, rfl⟩
     exact key_size (n := 5) X hfd ⟨compScope_of (by decide), rfl, rfl⟩ rfl (hτ2 _ (by walk_at "m")) hi hf1 (hA'.in1.in1.le (by decide)) hq
   . rw [length_map, length_range] at hp1; have hpu : u = p := perm_sorted_eq kLe_asymm (hup.trans hp1.symm) hus hp2; rw [hpu]
     have hpm : (p.map fun i => ((List.range found.length).map fun (i : Nat) => AV.int i).getD i .none) = p.map nA := by
       refine map_congr_left fun i hi => ?_; have := List.mem_range.mp (hp1.mem_iff.mp hi); rw [getD_eq_getElem?_getD, getElem?_map, getElem?_range this]; rfl
     rw [hpm]; walk_at "e"; refine ⟨szle rfl, ?_⟩; walk_at "e"; refine bin_repeat .frozen (by decide) (by show 1 * 2 <= 1000000; decide) (by decide) ?_; have hnm : p.map nA = (p.map fun i : Nat => (i : Int)).map AV.int := by rw [map_map]; rfl
     rw [hnm]; refine cmp_ne_same (xs := [.list ((p.map fun i : Nat => (i : Int)).map Dat.int), .list ((p.map fun i : Nat => (i : Int)).map Dat.int)]) hu .frozen .frozen (.cons (isDat_list _) (.cons (isDat_list _) .nil)) (.cons (isDat_list _) (.cons (isDat_list _) .nil)) ?_ ⟨_, rfl, ?_⟩
     . intro d hd; simp only [mem_cons, not_mem_nil, or_false, or_self] at hd; rw [hd]; exact ok_list 7 _
     . refine if_f (by decide) ?_; exact exs_nil (h _ _ _)
end
end
section
noncomputable def dueA (w : Int) (found : List (List Nat)) (i : Nat) : Int := signOf w * szK found i
noncomputable def dueB (w : Int) (found : List (List Nat)) (i : Nat) : Int := (-signOf w) * mask (found.getD i [])
theorem mapIdx_third : ∀ (found : List (List Nat)), (found.mapIdx rowOf).map (fun r => r.2.2.toNat) = List.range found.length := by
 intro found; apply List.ext_getElem?; intro i; rw [getElem?_map, List.getElem?_mapIdx]; by_cases h : i < found.length
 . rw [getElem?_eq_getElem h, getElem?_range h]; rfl
 . rw [List.getElem?_eq_none (Nat.not_lt.mp h), List.getElem?_eq_none (by rw [length_range]; exact Nat.not_lt.mp h)]; rfl
section
variable {rs : List (List Int)} {syms : List Int} {w : Int} {found : List (List Nat)} {moves : List (Int × Int)} {shelf : List Row}
theorem shelf_row (M : MachRes rs syms w found moves shelf) {r : Row} (hr : r ∈ shelf) : ∃ j s, found[j]? = some s /\ r = rowOf j s := mem_mapIdx_row.mp (M.perm.mem_iff.mp hr)
theorem shelf_kLe (hw : w ≠ 0) {i j : Nat} {s t : List Nat} (hi : found[i]? = some s) (hj : found[j]? = some t) (h : cmpOf w (key2 (rowOf i s)) (key2 (rowOf j t)) < 0) : kLe (dueA w found) (dueB w found) i j := by
 have e1 : found.getD i [] = s := by rw [getD_eq_getElem?_getD, hi]; rfl
 have e2 : found.getD j [] = t := by rw [getD_eq_getElem?_getD, hj]; rfl
 have h' := (cmp_lx hw _ _).mp h; unfold kx at h'; unfold kLe dueA dueB szK; rw [e1, e2]; show _ \/ _; by_cases h0 : 0 < w
 . rw [if_pos h0, if_pos h0] at h'; have hs : signOf w = 1 := if_pos h0; rw [hs]; rw [Int.one_mul, Int.one_mul, Int.neg_one_mul, Int.neg_one_mul]; exact h'.imp id fun x => ⟨x.1, .inl x.2⟩
 . rw [if_neg h0, if_neg h0] at h'; have hs : signOf w = -1 := if_neg h0; rw [hs]; rw [Int.neg_one_mul, Int.neg_one_mul, Int.neg_neg, Int.one_mul, Int.one_mul]; exact h'.imp id fun x => ⟨x.1, .inl x.2⟩
theorem shelf_third (M : MachRes rs syms w found moves shelf) (hw : w ≠ 0) {p : List Nat} (hp : p.Perm (List.range found.length)) (hs : p.Pairwise (kLe (dueA w found) (dueB w found))) : shelf.map (fun r => AV.int r.2.2) = p.map nA := by
 have h1 : (shelf.map fun r => r.2.2.toNat).Perm (List.range found.length) := by
   have := M.perm.map fun r => r.2.2.toNat; rwa [mapIdx_third] at this
 have h2 : (shelf.map fun r => r.2.2.toNat).Pairwise (kLe (dueA w found) (dueB w found)) := by
   rw [pairwise_map]; have hall := M.sorted; refine List.Pairwise.imp_of_mem (fun {a b} ha hb hab => ?_) hall; obtain ⟨i, s, hi, rfl⟩ := shelf_row M ha; obtain ⟨j, t, hj, rfl⟩ := shelf_row M hb; exact shelf_kLe hw hi hj hab
 have e : shelf.map (fun r => r.2.2.toNat) = p := perm_sorted_eq kLe_asymm (h1.trans hp.symm) h2 hs; rw [<- e, map_map]; refine map_congr_left fun r hr => ?_; obtain ⟨j, s, hj, rfl⟩ := shelf_row M hr; show AV.int ((j : Int)) = nA ((j : Int)).toNat; rw [toNat_natCast]
theorem cmp_val (hw : w ≠ 0) {a b : Int × Int} (h : cmpOf w a b < 0) : cmpOf w a b = -(if w < 0 then -w else w) /\ cmpOf w b a = (if w < 0 then -w else w) := by
 have key : ∀ {a b : Int × Int}, a.1 < b.1 \/ (a.1 = b.1 /\ b.2 < a.2) -> cmpOf w a b = -w /\ cmpOf w b a = w := fun {a b} h => by
   unfold cmpOf; rcases h with h | ⟨e, h⟩
   . exact ⟨if_pos h, by rw [if_neg (Int.lt_asymm h), if_pos h]⟩
   . have n1 : ¬ a.1 < b.1 := fun q => Int.ne_of_lt q e; have n2 : ¬ b.1 < a.1 := fun q => Int.ne_of_gt q e; simp only [if_neg n1, if_neg n2, if_pos h, if_neg (Int.lt_asymm h), and_self]
 have H := cmp_is w a b; by_cases hp : w < 0
 . rw [if_pos hp, Int.neg_neg]; generalize hz : cmpOf w a b = z at H h
   cases H with
   | gt1 g => exact ⟨rfl, (key (.inl g)).1⟩
   | lt2 e g => exact ⟨rfl, (key (.inr ⟨e.symm, g⟩)).1⟩
   | eq => exact absurd h (by decide)
   | _ => exact absurd h (Int.lt_asymm (Int.neg_pos_of_neg hp))
 . rw [if_neg hp]; generalize hz : cmpOf w a b = z at H h
   cases H with
   | lt1 g => exact ⟨rfl, (key (.inl g)).2⟩
   | gt2 e g => exact ⟨rfl, (key (.inr ⟨e, g⟩)).2⟩
   | eq => exact absurd h (by decide)
   | _ => exact absurd h hp
theorem zip_next {R : Row -> Row -> Prop} : ∀ {l : List Row}, l.Pairwise R -> ∀ d ∈ zipD (l.map rowA) ((l.drop 1).map rowA), ∃ r1 r2, R r1 r2 /\ d = .tuple [rowA r1, rowA r2]
 | [], _, d, hd => nomatch hd
 | [a], _, d, hd => nomatch hd
 | a :: b :: l, h, d, hd => by
   rw [pairwise_cons] at h; have hd' : d ∈ AV.tuple [rowA a, rowA b] :: zipD ((b :: l).map rowA) (((b :: l).drop 1).map rowA) := hd; rcases List.mem_cons.mp hd' with rfl | hd'
   . exact ⟨a, b, h.1 b mem_cons_self, rfl⟩
   . exact zip_next h.2 d hd'
end
theorem flat_const {α β : Type} (x : β) : ∀ l : List α, l.flatMap (fun _ => [x]) = List.replicate l.length x
 | [] => rfl
 | a :: l => by rw [flatMap_cons, flat_const x l, length_cons, replicate_succ]; rfl
theorem flatten_rep {β : Type} (x : β) : ∀ n : Nat, (List.replicate n [x]).flatten = List.replicate n x
 | 0 => rfl
 | n + 1 => by rw [replicate_succ, List.flatten_cons, flatten_rep x n, replicate_succ]; rfl
noncomputable def thF : AV -> List AV
 | .tuple [_, _, .int k] => [.int k]
 | _ => []
theorem thF_flat : ∀ (l : List Row), (l.map rowA).flatMap thF = l.map fun r => AV.int r.2.2
 | [] => rfl
 | r :: l => by rw [map_cons, flatMap_cons, thF_flat l]; rfl
end
section
section
variable {C : Cx} {A : Around} {σ : St} (X : Wd C) (I : Ki C)
include X in
theorem lam_due {fd : FuncData} {params : Arguments} {body : Expr} {sc : Scope} {q : Str} {c1 c3 c13 : Addr} {w : Int} {found : List (List Nat)} {j : Nat}
   (hl : LamFd fd params body sc q [("found", c3), ("sign", c13), ("sizes", c1)]) (cs : LamScope sc) (hb : ∀ fd : FuncData, fd.params = params -> fd.defaults = .none -> fd.kwdefaults = .none -> ∀ v, bindArgs fd ⟨[v], []⟩ = pure [(("one" : Str), v)]) (hr : (("one" : Str), NameKind.local) ∈ sc.names)
   {τ : St} {A2 : Around} {Q2 : AV -> St -> Prop} {n : Nat} (hA2 : AOk (n + 1) A2)
   (hev : ∀ {L : Addr} {A' : Around} {env : Env} {Q : AV -> St -> Prop}, AOk n A' -> EnvIs env L sc.names [("found", c3), ("sign", c13), ("sizes", c1)] -> Q (keyAV true (dueA w found j) (dueB w found j)) ((L, .ns [("one", some (nA j))]) :: τ) -> Ev C A' (eval body env) ((L, .ns [("one", some (nA j))]) :: τ) Q)
   (hq : Q2 (keyAV true (dueA w found j) (dueB w found j)) τ) : CallV C A2 (.fn fd) [nA j] [] τ Q2 := by
 refine callV_lam (m0 := [("one", some (nA j))]) X.G hA2 hl cs hb hr (show (["one"] : List Str).Nodup by decide) (fun y av h => by rw [mem_singleton] at h; cases h; exact ⟨rfl, rfl⟩) ?_; intro L A'' env hA'' hE; exact hev hA'' hE ⟨_, sublist_cons_self _ _, hq⟩
include X I in
theorem law_5 (T : Tb X) {A' : Around} {env : Env} {L c1 c2 c3 c4 c13 : Addr} {cells : List (Str × Addr)} {ρ : List (Str × Option AV)} {τ : St} {Q : AFlow -> St -> Prop} (hA' : AOk 20 A') (hE : EnvIs env L lawNames cells) (m1 : (("sizes" : Str), c1) ∈ cells) (m2 : (("shelf" : Str), c2) ∈ cells) (m3 : (("found" : Str), c3) ∈ cells) (m4 : (("comp" : Str), c4) ∈ cells) (m13 : (("sign" : Str), c13) ∈ cells)
   (hcode : env.code = X.law.code) (hqual : env.qual = X.law.qualname ++ ".<locals>.") (hT : (T.tL, .tab (alL X)) ∈ τ)
   {w : Int}  {rs : List (List Int)} {syms : List Int} {found : List (List Nat)} {moves : List (Int × Int)} {shelf : List Row} (hf1 : found.length <= 63) (hw : w ≠ 0) (hw3 : -3 <= w /\ w <= 3)
   (M : MachRes rs syms w found moves shelf) (hfs : ∀ s ∈ found, ∀ n ∈ s, n < 64) (hsl : ∀ s ∈ found, s.length <= 64)
   (h : ∀ o8, Ef C A' (execs (lawBody.drop 15) env) ((L, .ns (("way", some (.int w)) :: ("due", o8) :: ρ)) :: (c1, .cell (some (szA found))) :: (c2, .cell (some (.list (shelf.map rowA)))) :: (c3, .cell (some (.list (found.map stA)))) :: (c4, .cell (some (compA I w))) :: (c13, .cell (some (.int (signOf w)))) :: τ) Q) :
   Ef C A' (execs (lawBody.drop 13) env) ((L, .ns (("way", some (.int w)) :: ("due", none) :: ρ)) :: (c1, .cell (some (szA found))) :: (c2, .cell (some (.list (shelf.map rowA)))) :: (c3, .cell (some (.list (found.map stA)))) :: (c4, .cell (some (compA I w))) :: (c13, .cell (some (.int (signOf w)))) :: τ) Q := by
 have hu : A'.units + 64 < cLine := hA'.eqRoom
 have hsgn : -1 <= signOf w /\ signOf w <= 1 := by unfold signOf; split <;> decide
 have hsg1 : -2 ^ 64 < signOf w /\ signOf w < 2 ^ 64 := ⟨Int.lt_of_lt_of_le (by decide) hsgn.1, Int.lt_of_le_of_lt hsgn.2 (by decide)⟩; have hsg2 : -2 ^ 64 < -signOf w /\ -signOf w < 2 ^ 64 := ⟨neg_lt_neg hsg1.2, Int.neg_lt_of_neg_lt hsg1.1⟩; have hsh : shelf.length = found.length := by have := M.perm.length_eq; rwa [length_mapIdx] at this
 have hfo := free_ok (sn := [("one", .local), ("found", .free), ("sign", .free), ("sizes", .free), ("sum", .globalImplicit)]) (cells' := [("found", c3), ("sign", c13), ("sizes", c1)]) (cells := cells) rfl (sub_cons m3 (sub_cons m13 (sub_cons m1 sub_nil))); have hf16 : found.length <= 16777216 := le_trans hf1 (by decide); have hzf : (found.map stA).length <= sizeLine := szm hf16; walk_at "g"; iterate 2 walk_at "e"
 refine ⟨.inr (fun T h => by cases h), .builtin _, ?_⟩; iterate 3 walk_at "e"
 refine ⟨.inl rfl, .type _, ?_⟩; iterate 3 walk_at "e"
 refine ⟨.inl rfl, .builtin _, ?_⟩; iterate 3 walk_at "e"
 refine kw_nil ?_; refine cv_len_list .frozen hzf ?_; rw [length_map]; walk_at "e"; refine kw_nil ?_; refine cv_range fun t1 t2 t3 => ?_; walk_at "e"; refine kw_cons ?_; refine ev_lambda (cells' := [("found", c3), ("sign", c13), ("sizes", c1)]) X.GB (compScope_of (by decide)) hE (hcode ▸ T.cL) (by walk_at "m") (by rw [hqual]; walk_at "m") (fun p' q' h _ _ => by rw [hqual]; exact alL_q X h) rfl rfl hfo.1 hfo.2 fun fd hfd => ?_; refine kw_nil ?_; refine cv_sorted_key (ds := (List.range found.length).map fun (i : Nat) => AV.int i) (tp := true) (ka := dueA w found) (kb := dueB w found) (coll_range (A := A'.in1) (n := found.length) hA'.handled (by lia)) (by rw [length_map, length_range]; lia) (fun h => by cases h) ⟨_, rfl⟩ (fun i e τ2 Q2 he hτ2 hq => ?_) fun p hp1 hp2 => ?_
 . obtain ⟨hi, rfl⟩ : i < found.length /\ e = nA i := by
     rw [getElem?_map] at he; obtain ⟨j, hj, rfl⟩ := Option.map_eq_some_iff.mp he; obtain ⟨h1, h2⟩ := List.getElem?_eq_some_iff.mp hj; rw [List.getElem_range] at h2; rw [length_range] at h1; rw [<- h2]; exact ⟨h1, rfl⟩
   obtain ⟨s, hs⟩ : ∃ s, found[i]? = some s := ⟨_, getElem?_eq_getElem hi⟩; have hsm := mem_of_getElem? hs; have hsd : found.getD i [] = s := by rw [getD_eq_getElem?_getD, hs]; rfl
   have k1 : (c1, AEnt.cell (some (szA found))) ∈ τ2 := hτ2 _ (by walk_at "m"); have k3 : (c3, AEnt.cell (some (.list (found.map stA)))) ∈ τ2 := hτ2 _ (by walk_at "m"); have k13 : (c13, AEnt.cell (some (.int (signOf w)))) ∈ τ2 := hτ2 _ (by walk_at "m")
   exact lam_due (n := 5) (w := w) (found := found) X hfd ⟨compScope_of (by decide), rfl, rfl⟩ (fun fd e1 e2 e3 v => by
     obtain ⟨_, _, _, _, _, _, _, _, _, _, _, _, _, _, _⟩ := fd; dsimp only at e1 e2 e3; subst e1 e2 e3
     rfl) (by walk_at "m") (hA'.in1.in1.le (by lia)) (fun {L' A'' env' Q'} hA'' hE' hq' => by
     refine ev_tuple ?_; iterate 2 walk_at "e"
     refine name_free hE' (by walk_at "m") (by walk_at "m") (mem_cons_of_mem _ k13) ?_; walk_at "e"; refine name_free hE' (by walk_at "m") (by walk_at "m") (mem_cons_of_mem _ k1) ?_; walk_at "e"; refine sz_get (i := i) hi ?_
     refine bin_mul ?_ (.inl (by first | exact hsg1 | exact hsg2))
     iterate 3 walk_at "e"
     refine name_free hE' (by walk_at "m") (by walk_at "m") (mem_cons_of_mem _ k13) ?_; refine un_neg ?_; iterate 2 walk_at "e"
     refine ⟨.inl rfl, .builtin _, ?_⟩; walk_at "e"; refine ev_lc (m0 := [("item", none)]) [] rfl (by decide) hE' rfl (by walk_at "s") (by decide) (allNone_of rfl) (fun _ => rfl) ?_; refine evIter_of ?_; walk_at "e"; refine name_free hE' (by walk_at "m") (by walk_at "m") (mem_cons_of_mem _ k3) ?_; walk_at "e"; refine st_listN .frozen (by lia) (e := stA s) (by rw [getElem?_map, hs]; rfl) (fun _ _ => rfl) ?_; refine ⟨_, mk_list (.name _ _) hA''.handled (.inl rfl), _, core_L1 shF (by rw [shF_flat, length_map, length_map, sizeLine_eq]; have := hsl s hsm; lia) ?_, ?_⟩
     . intro d hd Lc cenv τ' hτ hE2; obtain ⟨n, hn, rfl⟩ := List.mem_map.mp hd; have hnl := hfs s hsm n hn; walk_at "a"; refine tests_nil ?_; refine if_t rfl ?_; iterate 3 walk_at "e"
       exact bin_shl ⟨rfl, _, .none .nil, rfl⟩ (by lia) (by lia) (by decide)
     rw [shF_flat]; walk_at "e"; refine kw_nil ?_; refine cv_sum hA''.handled .frozen ?_
     refine bin_mul ?_ (.inl (by first | exact hsg1 | exact hsg2))
     walk_at "e"; refine ⟨szle rfl, ?_⟩
     have e1 : (AV.tuple [.int (signOf w * szK found i), .int (-signOf w * ((s.map fun n => (2 : Int) ^ n)).sum)]) = keyAV true (dueA w found i) (dueB w found i) := by
       unfold keyAV dueA dueB mask; rw [hsd]; rfl
     rw [e1]; exact hq') hq
 . rw [length_map, length_range] at hp1
   have hpm : (p.map fun i => ((List.range found.length).map fun (i : Nat) => AV.int i).getD i .none) = p.map nA := by
     refine map_congr_left fun i hi => ?_; have := List.mem_range.mp (hp1.mem_iff.mp hi); rw [getD_eq_getElem?_getD, getElem?_map, getElem?_range this]; rfl
   rw [hpm]; have hpl : p.length = found.length := by rw [hp1.length_eq, length_range]
   have hthird := shelf_third M hw hp1 hp2; walk_at "a"; refine exs_cons (ex_if ?_); iterate 2 walk_at "e"
   refine ev_lc (m0 := [("one", none)]) [] rfl (by decide) hE rfl (by walk_at "s") (by decide) (allNone_of rfl) (fun _ => rfl) ?_; refine evIter_of ?_; walk_at "e"; refine ⟨_, mk_list (.name _ _) hA'.handled (.inl rfl), _, core_L1 thF (by rw [thF_flat, length_map, sizeLine_eq]; lia) ?_, ?_⟩
   . intro d hd Lc cenv τ' hτ hE'; obtain ⟨r, hr, rfl⟩ := List.mem_map.mp hd; walk_at "a"; refine tests_nil ?_; refine if_t rfl ?_; iterate 3 walk_at "e"
     exact st_tuple (k := 2) (gi_tuple (by decide) (by decide) (e := .int r.2.2) rfl ⟨rfl, _, .none .nil, rfl⟩) (fun _ _ => rfl)
   rw [thF_flat, hthird]; have hnm : p.map nA = (p.map fun i : Nat => (i : Int)).map AV.int := by rw [map_map]; rfl
   rw [hnm]; walk_at "e"; refine cmp_ne_same (xs := (p.map fun i : Nat => (i : Int)).map Dat.int) hu .frozen .frozen (isDats_ints _) (isDats_ints _) (ok_ints 8 _) ⟨_, rfl, ?_⟩; refine if_f (by decide) ?_; iterate 2 walk_at "e"
   refine ev_lc (m0 := [("one", none), ("two", none)]) [("comp", c4)] rfl (by decide) hE rfl (by walk_at "s") (by decide) (allNone_of rfl) (fun _ => rfl) ?_; refine evIter_call (T := "zip") ?_ rfl rfl ⟨_, _, rfl⟩; walk_at "e"; refine ⟨rfl, ?_⟩; iterate 5 walk_at "e"
   refine ev_slice (ev_part_some ?_); walk_at "e"; refine ev_part_none ⟨some ((1 : Nat) : Int), none, .int _, .none, fun l u hl hu' => ?_⟩; refine st_list_slice .frozen (gi_list_slice .frozen hl hu' (szm (by lia)) ?_); rw [cut_from, <- map_drop]; walk_at "e"
   obtain ⟨pr, hpr⟩ : ∃ pr : List Int, pr = [-(if w < 0 then -w else w), (if w < 0 then -w else w)] := ⟨_, rfl⟩
   have hzl : (zipD (shelf.map rowA) ((shelf.drop 1).map rowA)).length = found.length - 1 := by rw [zipD_length, length_map, length_map, length_drop, hsh]; exact Nat.min_eq_right (sub_le _ _)
   refine ⟨_, mkc_zip hA'.handled (.inl rfl) (.inl rfl), _, core_L1 (fun _ => [tA pr]) (by rw [flat_const, List.length_replicate, hzl]; exact szle' (le_trans (sub_le _ _) (le_trans hf1 (by decide)))) ?_, ?_⟩
   . intro d hd Lc cenv τ' hτ hE'; obtain ⟨r1, r2, hR, rfl⟩ := zip_next M.sorted d hd; obtain ⟨v1, v2⟩ := cmp_val hw hR; have k4 : (c4, AEnt.cell (some (compA I w))) ∈ τ' := hτ _ (by walk_at "m"); refine as_tuple hA'.handled rfl rfl ?_; walk_at "a"; walk_at "a"; refine tests_nil ?_; refine if_t rfl ?_; refine ev_tuple ?_; walk_at "e"; refine ev_mcall ?_ rfl rfl ⟨_, _, rfl⟩; refine name_free hE' (by walk_at "m") (by walk_at "m") (mem_cons_of_mem _ k4) ?_; refine ⟨_, _, meth_cmp I, .fn _, ?_⟩; iterate 5 walk_at "e"
     refine kw_nil ?_; refine cmp_call X I (hA'.le (by decide)) ?_; rw [v1]; walk_at "e"; refine ev_mcall ?_ rfl rfl ⟨_, _, rfl⟩; refine name_free hE' (by walk_at "m") (by walk_at "m") (mem_cons_of_mem _ k4) ?_; refine ⟨_, _, meth_cmp I, .fn _, ?_⟩; iterate 5 walk_at "e"
     refine kw_nil ?_; refine cmp_call X I (hA'.le (by decide)) ?_; rw [v2]; walk_at "e"; refine ⟨szle rfl, ?_⟩; exact ⟨by rw [hpr]; rfl, _, .none (.none .nil), rfl⟩
   rw [flat_const, hzl]; walk_at "e"; refine ev_list ?_; walk_at "e"; refine ev_tuple ?_; iterate 4 walk_at "e"
   refine ⟨.inl rfl, .builtin _, ?_⟩; iterate 3 walk_at "e"
   refine kw_nil ?_; refine cv_abs (un_neg ?_); iterate 3 walk_at "e"
   refine ⟨.inl rfl, .builtin _, ?_⟩; iterate 3 walk_at "e"
   refine kw_nil ?_; refine cv_abs ?_; walk_at "e"; refine ⟨szle rfl, ?_⟩; walk_at "e"; refine ⟨szle rfl, ?_⟩
   have hpa : (AV.tuple [.int (-(if w < 0 then -w else w)), .int (if w < 0 then -w else w)]) = tA pr := by rw [hpr]; rfl
   rw [hpa]; iterate 3 walk_at "e"
   refine ⟨.inl rfl, .builtin _, ?_⟩; iterate 3 walk_at "e"
   refine kw_nil ?_; refine cv_len_list .frozen (by rw [length_map, length_map, sizeLine_eq]; lia) ?_; rw [length_map, length_map, hpl]; walk_at "e"; refine bin_sub ?_
   have hf0 : 0 < found.length := by
     obtain ⟨s, hs, _⟩ := M.start; exact (List.getElem?_eq_some_iff.mp hs).1
   refine bin_repeat .frozen (by lia) (by simp; lia) (by lia) ?_; rw [flatten_rep, show ((found.length : Int) - 1).toNat = found.length - 1 from Int.toNat_sub _ 1]; have hrep : List.replicate (found.length - 1) (tA pr) = (List.replicate (found.length - 1) pr).map tA := by rw [List.map_replicate]
   rw [hrep]; refine cmp_ne_same (xs := (List.replicate (found.length - 1) pr).map tD) hu .frozen .frozen (isDats_map isDat_tup _) (isDats_map isDat_tup _) (ok_tups 7 _) ⟨_, rfl, ?_⟩; refine if_f (by decide) ?_; refine it_or_nil ?_; refine if_f (by decide) ?_; exact exs_nil (h _)
end
end
section
section
variable {C : Cx} {A : Around} {σ σ' : St} {env : Env} {pos : Pos} {L : Addr} {names : List (Str × NameKind)} {cells : List (Str × Addr)}
theorem fm_lt {α β : Type} {F : α -> Option β} : ∀ {l : List α}, (∃ t ∈ l, F t = none) -> (l.filterMap F).length < l.length
 | [], ⟨t, ht, _⟩ => nomatch ht
 | a :: l, ⟨t, ht, h⟩ => by
   rcases List.mem_cons.mp ht with rfl | ht
   . rw [List.filterMap_cons, h, length_cons]; exact lt_succ_of_le (List.length_filterMap_le _ _)
   . have ih := fm_lt ⟨t, ht, h⟩; rw [List.filterMap_cons, length_cons]; split
     . lia
     . rw [length_cons]; lia
theorem swapped_cell3 (hE : EnvIs env L names cells) {n1 n2 n3 : Str} {p1 p2 p3 tp vp : Pos} {k k' : Nat} {v1 v2 v3 : Expr} (h1 : (n1, .cell) ∈ names) (hs : ([v1, v2, v3].any fun | .Starred .. => true | _ => false) = false) :
   swappedStores [.Tuple [.Name n1 p1, .Name n2 p2, .Name n3 p3] k tp] (.Tuple [v1, v2, v3] k' vp) env = pure none := by
 unfold swappedStores; have e1 := hE.isCell _ h1; have hb := blockKind_fn hE; dsimp only [pure_bind]; rw [hb]; refine (if_neg (fun e => Bool.noConfusion e)).trans ((if_neg ?a).trans (if_pos ?b))
 case a => exact fun e => Bool.noConfusion (hs.symm.trans e)
 case b =>
   refine Bool.or_eq_true_iff.mpr (.inl ?_); refine bne_iff_ne.mpr (ne_of_lt (fm_lt ⟨.Name n1 p1, mem_cons_self, ?_⟩)); simp only [e1]; rfl
theorem swapped_cell2 (hE : EnvIs env L names cells) {n1 n2 : Str} {p1 p2 tp vp : Pos} {k k' : Nat} {v1 v2 : Expr} (h1 : (n2, .cell) ∈ names) (hs : ([v1, v2].any fun | .Starred .. => true | _ => false) = false) :
   swappedStores [.Tuple [.Name n1 p1, .Name n2 p2] k tp] (.Tuple [v1, v2] k' vp) env = pure none := by
 unfold swappedStores; have e1 := hE.isCell _ h1; have hb := blockKind_fn hE; dsimp only [pure_bind]; rw [hb]; refine (if_neg (fun e => Bool.noConfusion e)).trans ((if_neg ?a).trans (if_pos ?b))
 case a => exact fun e => Bool.noConfusion (hs.symm.trans e)
 case b =>
   refine Bool.or_eq_true_iff.mpr (.inl ?_); refine bne_iff_ne.mpr (ne_of_lt (fm_lt ⟨.Name n2 p2, mem_cons_of_mem _ mem_cons_self, ?_⟩)); simp only [e1]; rfl
end
end
section
theorem perm_sorted_le {α : Type} {R : α -> α -> Prop} (anti : ∀ a b, R a b -> R b a -> a = b) : ∀ {l m : List α}, l.Perm m -> l.Pairwise R -> m.Pairwise R -> l = m
 | [], m, hp, _, _ => hp.nil_eq
 | a :: l, m, hp, h1, h2 => by
   cases m with
   | nil => exact absurd hp.length_eq (by simp)
   | cons b m =>
     rw [pairwise_cons] at h1 h2
     have e : a = b := by
       have ha : a ∈ b :: m := hp.mem_iff.mp mem_cons_self; have hb : b ∈ a :: l := hp.mem_iff.mpr mem_cons_self; rcases List.mem_cons.mp ha with e | ha
       . exact e
       . rcases List.mem_cons.mp hb with e | hb
         . exact e.symm
         . exact anti _ _ (h1.1 b hb) (h2.1 a ha)
     subst e; rw [perm_sorted_le anti (List.perm_cons a |>.mp hp) h1.2 h2.2]
noncomputable def iPutAll : List (Int × Int) -> List (Int × Int) -> List (Int × Int)
 | out, [] => out
 | out, p :: l => iPutAll (gPut out p.1 p.2) l
theorem putAll_dI : ∀ (l out : List (Int × Int)), putAll (dI out) (dI l) = dI (iPutAll out l)
 | [], _ => rfl
 | (k, v) :: l, out => by
   show putAll (gPut (dI out) k (.int v)) (dI l) = _; rw [gPut_map, putAll_dI l]; rfl
theorem putAll_new : ∀ (l out : List (Int × AV)), ((out ++ l).map (·.1)).Nodup -> putAll out l = out ++ l
 | [], out, _ => by rw [append_nil]; rfl
 | (k, d) :: l, out, h => by
   have hk : k ∉ out.map (·.1) := by
     rw [map_append, nodup_append] at h; exact fun hm => h.2.2 k hm k mem_cons_self rfl
   show putAll (gPut out k d) l = _; rw [gPut_of_not hk, putAll_new l (out ++ [(k, d)]) (by rw [append_assoc]; exact h), append_assoc]; rfl
noncomputable def layNext (moves : List (Int × Int)) (syms : List Int) (lay : List (Int × Int)) : List (Int × Int) :=
 lay.flatMap fun p => syms.flatMap fun X => match gGet moves (512 * p.2 + X) with
   | some t => [(512 * p.1 + X, t)]
   | none => []
noncomputable def inLay (k : Nat) (w : Int) : Bool := decide (512 ^ k / 512 <= w /\ w < 512 ^ k)
structure LayOk (found : List (List Nat)) (fit : List (Int × List Int)) (k : Nat) (lay tab : List (Int × Int)) : Prop where
 nd : (lay.map (·.1)).Nodup
 perm : ((fit.map (·.1)).filter (inLay k)).Perm (lay.map (·.1))
 item : ∀ p ∈ lay, ∃ (j : Nat) (s : List Nat) (its : List Int), p.2 = (j : Int) /\ found[j]? = some s /\ gGet fit p.1 = some its /\ its.Perm (s.map fun n : Nat => (n : Int)) /\ s.Pairwise (· < ·)
 tnd : (tab.map (·.1)).Nodup
 tab : ∀ st, gGet tab st = if (lay.map (·.2)).count st = 0 then none else some (((lay.map (·.2)).count st : Nat) : Int)
 small : lay.length <= 63
noncomputable def cntD (l : List Int) : List (Int × Int) := iPutAll [] (l.map fun s => (s, ((l.count s : Nat) : Int)))
theorem iGet_putAll_other {k : Int} : ∀ (l out : List (Int × Int)), (∀ p ∈ l, p.1 ≠ k) -> gGet (iPutAll out l) k = gGet out k
 | [], _, _ => rfl
 | p :: l, out, h => by
   show gGet (iPutAll (gPut out p.1 p.2) l) k = _; rw [iGet_putAll_other l _ fun q hq => h q (mem_cons_of_mem _ hq), gGet_put, if_neg (h p mem_cons_self)]
theorem iGet_putAll_fn {f : Int -> Int} {k : Int} : ∀ (l : List Int) (out : List (Int × Int)), k ∈ l -> gGet (iPutAll out (l.map fun s => (s, f s))) k = some (f k)
 | s :: l, out, h => by
   show gGet (iPutAll (gPut out s (f s)) (l.map fun s => (s, f s))) k = _; by_cases hl : k ∈ l
   . exact iGet_putAll_fn l _ hl
   . have hk : k = s := by rcases List.mem_cons.mp h with e | e; exact e; exact absurd e hl
     rw [iGet_putAll_other, gGet_put, if_pos hk.symm, hk]; intro p hp; obtain ⟨x, hx, rfl⟩ := List.mem_map.mp hp; exact fun e => hl (e ▸ hx)
set_option tactic.hygienic true in
theorem iPutAll_nd : ∀ (l out : List (Int × Int)), (out.map (·.1)).Nodup -> ((iPutAll out l).map (·.1)).Nodup
 | [], _, h => h
 | p :: l, out, h => by
   refine iPutAll_nd l _ ?_; rw [gPut_keys]; split
   . exact h
   . rename_i hk
     rw [nodup_append]; exact ⟨h, by simp, fun a ha b hb e => hk (by simp at hb; rw [<- hb, <- e]; exact ha)⟩
theorem mem_keys_iff {l : List (Int × Int)} {k : Int} : k ∈ l.map (·.1) ↔ ∃ v, gGet l k = some v := by
 constructor
 . intro h
   cases hq : gGet l k with
   | some v => exact ⟨v, rfl⟩
   | none => exact absurd h (gGet_none.mp hq)
 . rintro ⟨v, hv⟩; refine Classical.byContradiction fun h => ?_; rw [gGet_none.mpr h] at hv; cases hv
theorem cntD_get (l : List Int) (k : Int) : gGet (cntD l) k = if l.count k = 0 then none else some ((l.count k : Nat) : Int) := by
 unfold cntD; by_cases h : k ∈ l
 . rw [iGet_putAll_fn (f := fun s => ((l.count s : Nat) : Int)) l [] h, if_neg (by have := List.count_pos_iff.mpr h; lia)]
 . rw [iGet_putAll_other, if_pos (List.count_eq_zero.mpr h)]
   . rfl
   . intro p hp; obtain ⟨x, hx, rfl⟩ := List.mem_map.mp hp; exact fun e => h (e ▸ hx)
theorem cntD_same {tab : List (Int × Int)} {l : List Int} (nd : (tab.map (·.1)).Nodup) (h : ∀ st, gGet tab st = if l.count st = 0 then none else some ((l.count st : Nat) : Int)) : tab.length = (cntD l).length /\ ∀ p ∈ tab, gGet (cntD l) p.1 = some p.2 := by
 have hnd : ((cntD l).map (·.1)).Nodup := iPutAll_nd _ _ nodup_nil
 constructor
 . have hp : (tab.map (·.1)).Perm ((cntD l).map (·.1)) := by
     refine (List.perm_ext_iff_of_nodup nd hnd).mpr fun k => ?_; rw [mem_keys_iff, mem_keys_iff, h, cntD_get]
   have := hp.length_eq; rwa [length_map, length_map] at this
 . intro p hp; rw [cntD_get, <- h]; exact gGet_mem nd hp
theorem sumC_eq : ∀ (l : List (Int × Int)) (n : Int), l.foldl (fun n p => n + p.2) n = n + (l.map (·.2)).sum
 | [], n => by simp
 | p :: l, n => by
   rw [foldl_cons, sumC_eq l, map_cons, sum_cons]; lia
theorem cut_count : ∀ (l : List Int) (k : Int), (l.filter fun x => decide (x ≠ k)).length + l.count k = l.length
 | [], _ => rfl
 | a :: l, k => by
   have ih := cut_count l k; by_cases h : a = k
   . subst h; rw [List.filter_cons_of_neg (by simp), List.count_cons_self, length_cons]; lia
   . rw [List.filter_cons_of_pos (by simpa using h), List.count_cons_of_ne h, length_cons, length_cons]; lia
theorem tab_sum : ∀ (tab : List (Int × Int)) (l : List Int), (tab.map (·.1)).Nodup -> (∀ st, gGet tab st = if l.count st = 0 then none else some ((l.count st : Nat) : Int)) -> (tab.map (·.2)).sum = (l.length : Nat)
 | [], l, _, h => by
   cases l with
   | nil => rfl
   | cons a l =>
     have := h a; rw [List.count_cons_self, if_neg (by lia)] at this; cases this
 | (k, v) :: tab, l, nd, h => by
   rw [map_cons, nodup_cons] at nd
   have hk : (if l.count k = 0 then none else some ((l.count k : Nat) : Int)) = some v := by
     rw [<- h k]; exact if_pos rfl
   have hv : v = ((l.count k : Nat) : Int) /\ l.count k ≠ 0 := by
     by_cases hc : l.count k = 0
     . rw [if_pos hc] at hk; cases hk
     . rw [if_neg hc] at hk; exact ⟨(Option.some.inj hk).symm, hc⟩
   have ih := tab_sum tab (l.filter fun x => decide (x ≠ k)) nd.2 fun st => by
     by_cases hs : st = k
     . subst hs; have h0 : (l.filter fun x => decide (x ≠ st)).count st = 0 := List.count_eq_zero.mpr fun hm => by simpa using (List.mem_filter.mp hm).2
       rw [h0, if_pos rfl]; exact gGet_none.mpr nd.1
     . have h1 : (l.filter fun x => decide (x ≠ k)).count st = l.count st := by
         rw [List.count_filter (by simpa using hs)]
       have h2 := h st; rw [gGet_c, if_neg (fun e => hs e.symm)] at h2; rw [h1, h2]
   rw [map_cons, sum_cons, ih, hv.1]; have := cut_count l k
   lia
noncomputable def keepF (k : Nat) : AV -> List AV
 | .int w => if inLay k w then [.int w] else []
 | _ => []
theorem keepF_flat (k : Nat) : ∀ (l : List Int), (l.map AV.int).flatMap (keepF k) = (l.filter (inLay k)).map AV.int
 | [] => rfl
 | w :: l => by
   rw [map_cons, flatMap_cons, keepF_flat k l]
   show (if inLay k w then [AV.int w] else []) ++ _ = _
   by_cases h : inLay k w
   . rw [if_pos h, List.filter_cons_of_pos h]; rfl
   . rw [if_neg h, List.filter_cons_of_neg h]; rfl
noncomputable def lookF (lay : List (Int × Int)) : AV -> List AV
 | .int w => match gGet lay w with
   | some s => [.int s]
   | none => []
 | _ => []
theorem lookF_flat {lay : List (Int × Int)} (nd : (lay.map (·.1)).Nodup) : (lay.map fun p => AV.int p.1).flatMap (lookF lay) = (lay.map (·.2)).map AV.int := by
 have key : ∀ l : List (Int × Int), (∀ p ∈ l, gGet lay p.1 = some p.2) -> (l.map fun p => AV.int p.1).flatMap (lookF lay) = (l.map (·.2)).map AV.int := by
   intro l
   induction l with
   | nil => intro _; rfl
   | cons p l ih =>
     intro h; rw [map_cons, flatMap_cons, ih fun q hq => h q (mem_cons_of_mem _ hq)]
     show (match gGet lay p.1 with | some s => [AV.int s] | none => []) ++ _ = _
     rw [h p mem_cons_self]; rfl
 exact key lay fun p hp => gGet_mem nd hp
theorem dI_app (a b : List (Int × Int)) : dI (a ++ b) = dI a ++ dI b := map_append
noncomputable def symF (moves : List (Int × Int)) (p : Int × Int) : AV -> List (Int × AV)
 | .int X => match gGet moves (512 * p.2 + X) with
   | some t => [(512 * p.1 + X, AV.int t)]
   | none => []
 | _ => []
noncomputable def nextF (moves : List (Int × Int)) (syms : List Int) (lay : List (Int × Int)) : AV -> List (Int × AV)
 | .int w => match gGet lay w with
   | some st => (syms.map AV.int).flatMap (symF moves (w, st))
   | none => []
 | _ => []
theorem symF_flat (moves : List (Int × Int)) (p : Int × Int) : ∀ syms : List Int, (syms.map AV.int).flatMap (symF moves p) = dI (syms.flatMap fun X => match gGet moves (512 * p.2 + X) with
   | some t => [(512 * p.1 + X, t)]
   | none => [])
 | [] => rfl
 | X :: syms => by
   rw [map_cons, flatMap_cons, flatMap_cons, symF_flat moves p syms, dI_app]
   congr 1
   show (match gGet moves (512 * p.2 + X) with | some t => [(512 * p.1 + X, AV.int t)] | none => []) = _
   cases gGet moves (512 * p.2 + X) <;> rfl
theorem nextF_flat {moves : List (Int × Int)} {syms : List Int} {lay : List (Int × Int)} (nd : (lay.map (·.1)).Nodup) : (lay.map fun p => AV.int p.1).flatMap (nextF moves syms lay) = dI (layNext moves syms lay) := by
 have key : ∀ l : List (Int × Int), (∀ p ∈ l, gGet lay p.1 = some p.2) -> (l.map fun p => AV.int p.1).flatMap (nextF moves syms lay) = dI (layNext moves syms l) := by
   intro l
   induction l with
   | nil => intro _; rfl
   | cons p l ih =>
     intro h; unfold layNext at ih ⊢; rw [map_cons, flatMap_cons, flatMap_cons, ih fun q hq => h q (mem_cons_of_mem _ hq), dI_app, <- symF_flat]
     congr 1
     show (match gGet lay p.1 with | some st => (syms.map AV.int).flatMap (symF moves (p.1, st)) | none => []) = _
     rw [h p mem_cons_self]
 exact key lay fun p hp => gGet_mem nd hp
end
section
section
variable {C : Cx} {A : Around} {σ : St} (X : Wd C) (I : Ki C)
theorem keepF_t {k : Nat} {wd : Int} (h1 : (512 : Int) ^ k / 512 <= wd) (h2 : wd < (512 : Int) ^ k) : keepF k (.int wd) = [.int wd] := by
 show (if inLay k wd then _ else _) = _
 rw [if_pos (show inLay k wd = true from decide_eq_true ⟨h1, h2⟩)]
theorem keepF_f {k : Nat} {wd : Int} (h : ¬ ((512 : Int) ^ k / 512 <= wd /\ wd < (512 : Int) ^ k)) : keepF k (.int wd) = [] := by
 show (if inLay k wd then _ else _) = _
 rw [if_neg (show ¬ inLay k wd = true from fun e => h (of_decide_eq_true e))]
theorem lookF_at {lay : List (Int × Int)} {k s : Int} (h : gGet lay k = some s) : lookF lay (.int k) = [.int s] := by
 show (match gGet lay k with | some s => [AV.int s] | none => []) = _
 rw [h]
theorem nextF_at {moves : List (Int × Int)} {syms : List Int} {lay : List (Int × Int)} {k s : Int} (h : gGet lay k = some s) : nextF moves syms lay (.int k) = (syms.map AV.int).flatMap (symF moves (k, s)) := by
 show (match gGet lay k with | some st => (syms.map AV.int).flatMap (symF moves (k, st)) | none => []) = _
 rw [h]
theorem symF_some {moves : List (Int × Int)} {p : Int × Int} {sy t : Int} (h : gGet moves (512 * p.2 + sy) = some t) : symF moves p (.int sy) = [(512 * p.1 + sy, .int t)] := by
 show (match gGet moves (512 * p.2 + sy) with | some t => [(512 * p.1 + sy, AV.int t)] | none => []) = _
 rw [h]
theorem symF_none {moves : List (Int × Int)} {p : Int × Int} {sy : Int} (h : gGet moves (512 * p.2 + sy) = none) : symF moves p (.int sy) = [] := by
 show (match gGet moves (512 * p.2 + sy) with | some t => [(512 * p.1 + sy, AV.int t)] | none => []) = _
 rw [h]
noncomputable def cntF (l0 : List Int) : AV -> List (Int × AV)
 | .int s => [(s, .int ((l0.count s : Nat) : Int))]
 | _ => []
theorem cntF_flat (l0 : List Int) : ∀ l : List Int, (l.map AV.int).flatMap (cntF l0) = dI (l.map fun s => (s, ((l0.count s : Nat) : Int)))
 | [] => rfl
 | s :: l => by rw [map_cons, flatMap_cons, cntF_flat l0 l]; rfl
theorem flat_nil : ∀ l : List AV, l.flatMap (fun _ => ([] : List AV)) = []
 | [] => rfl
 | x :: l => by rw [flatMap_cons, flat_nil l]; rfl
theorem tab_len {tab : List (Int × Int)} {l : List Int} (hnd : (tab.map (·.1)).Nodup) (ht : ∀ st, gGet tab st = if l.count st = 0 then none else some ((l.count st : Nat) : Int)) : tab.length <= l.length := by
 have h1 : (tab.map (·.1)).length <= l.length := nodup_sub_len hnd fun st hst => by
   obtain ⟨v, hv⟩ := mem_keys_iff.mp hst; rw [ht] at hv; by_cases hc : l.count st = 0
   . rw [if_pos hc] at hv; cases hv
   . exact List.count_pos_iff.mp (Nat.pos_of_ne_zero hc)
 rwa [length_map] at h1
inductive L6I (rs : List (List Int)) (Lay : Nat -> List (Int × Int) -> List (Int × Int) -> Prop) (L c7 c8 c9 : Addr) (ρ : List (Str × Option AV)) (pre : List Nat) (τ : St) : St -> Prop
 | mk (lay tab : List (Int × Int)) (du sz stt : Option AV) (hlay : pre.length < 4 -> Lay pre.length lay tab) :
   L6I rs Lay L c7 c8 c9 ρ pre τ ((L, .ns (("rules", some (lrA rs)) :: ("due", du) :: ("table", some (.dict (dI tab))) :: ρ)) :: (c7, .cell stt) :: (c8, .cell sz) :: (c9, .cell (some (.dict (dI lay)))) :: τ)
theorem L6I.par {rs : List (List Int)} {Lay : Nat -> List (Int × Int) -> List (Int × Int) -> Prop} {L c7 c8 c9 : Addr} {ρ : List (Str × Option AV)} {pre : List Nat} : Par (L6I rs Lay L c7 c8 c9 ρ pre) := fun τ σ h => by
 cases h with | mk a b c d e f => exact ⟨[_, _, _, _], rfl, fun τ' => .mk a b c d e f⟩
include X I in
theorem law_6 {A' : Around} {env : Env} {L c7 c8 c9 c3 c10 c11 c14 : Addr} {cells : List (Str × Addr)} {ρ : List (Str × Option AV)} {τ : St} {Q : AFlow -> St -> Prop} (hA' : AOk 20 A') (hE : EnvIs env L lawNames cells) (m7 : (("states" : Str), c7) ∈ cells) (m8 : (("size" : Str), c8) ∈ cells) (m9 : (("layer" : Str), c9) ∈ cells) (m3 : (("found" : Str), c3) ∈ cells) (m10 : (("fitting" : Str), c10) ∈ cells) (m11 : (("moves" : Str), c11) ∈ cells) (m14 : (("symbols" : Str), c14) ∈ cells)
    {o8 : Option AV} {rs : List (List Int)} {syms : List Int} {found : List (List Nat)} {moves : List (Int × Int)}
   (hlen : rs.length <= 8) (hrl : ∀ r ∈ rs, r.length <= 8 /\ r ≠ []) (hsl : syms.length <= 4) (hmn : (moves.map (·.1)).Nodup) (hml : moves.length <= 1000) (hf1 : found.length <= 63) (hs40 : ∀ s ∈ found, s.length <= 40)
   (hU : ∃ V : List (Int × Int), (256, 0) ∈ V /\ (∀ p ∈ V, ∀ q ∈ susOf rs p, q ∈ V) /\ V.length <= 1000)
   (hplain : ∀ As E, FitRes rs As E -> ∃ Lay : Nat -> List (Int × Int) -> List (Int × Int) -> Prop, Lay 0 [(0, 0)] [(0, 1)] /\ (∀ k lay tab, k < 3 -> Lay k lay tab -> Lay (k + 1) (layNext moves syms lay) (furtP moves tab)) /\ ∀ k lay tab, k <= 3 -> Lay k lay tab -> LayOk found (fitAll E) k lay tab)
   (h : ∀ o15 o16 o17 o18 o19 o20, Ef C A' (execs (lawBody.drop 17) env) ((L, .ns (("rules", some (lrA rs)) :: ("due", o15) :: ("table", o16) :: ρ)) :: (c7, .cell o20) :: (c8, .cell o19) :: (c9, .cell o18) :: (c3, .cell (some (.list (found.map stA)))) :: (c10, .cell o17) :: (c11, .cell (some (.dict (dI moves)))) :: (c14, .cell (some (.list (syms.map AV.int)))) :: τ) Q) :
   Ef C A' (execs (lawBody.drop 15) env) ((L, .ns (("rules", some (lrA rs)) :: ("due", o8) :: ("table", none) :: ρ)) :: (c7, .cell none) :: (c8, .cell none) :: (c9, .cell none) :: (c3, .cell (some (.list (found.map stA)))) :: (c10, .cell none) :: (c11, .cell (some (.dict (dI moves)))) :: (c14, .cell (some (.list (syms.map AV.int)))) :: τ) Q := by
 have hu : A'.units + 64 < cLine := hA'.eqRoom; have hu2 : A'.units < cLine := by lia
 obtain ⟨V, hV0, hVs, hVl⟩ := hU; refine exs_cons (ex_assign ?_ rfl (swapped_cell3 hE (by walk_at "m") rfl) rfl); refine ev_tuple ?_; iterate 3 walk_at "e"
 refine ⟨.inl rfl, .fn _, ?_⟩; iterate 3 walk_at "e"
 refine kw_nil ?_; refine fitt_call (σ := _ :: _ :: _ :: _ :: _ :: _ :: _ :: _ :: τ) X (hA'.le (by decide)) (fun r hr => (hrl r hr).2) hlen (fun r hr => (hrl r hr).1) hV0 hVs hVl fun As E hE2 => ?_; obtain ⟨Lay, hlay0, hstep, hok⟩ := hplain As E hE2; generalize fitAll E = fit at hok ⊢; walk_at "e"; refine ev_dict1 X.G fun a1 => ?_; iterate 2 walk_at "e"
 refine ⟨_, _, rfl, rfl, ?_⟩; walk_at "e"; refine ev_dict1 X.G fun a2 => ?_; iterate 2 walk_at "e"
 refine ⟨_, _, rfl, rfl, ?_⟩; walk_at "e"; refine ⟨szle rfl, ?_⟩; refine as_tuple hA'.handled rfl rfl ?_; walk_at "a"; walk_at "a"; walk_at "a"; refine exs_cons ?_; refine ex_forP (τ := (c3, .cell (some (.list (found.map stA)))) :: (c10, .cell (some (.dict (fA fit)))) :: (c11, .cell (some (.dict (dI moves)))) :: (c14, .cell (some (.list (syms.map AV.int)))) :: τ) (List.range 4) (fun _ i => .int i) (L6I rs Lay L c7 c8 c9 ρ) (fun _ _ => False) (fun _ _ _ => False) (fun _ => L6I.par) Par.no (fun _ => Par.no) ?_ ?_ ?_ (fun _ _ h => h.elim) (fun _ => rfl)
 . refine evIter_of ?_; iterate 2 walk_at "e"
   refine ⟨.inl rfl, .type _, ?_⟩; iterate 3 walk_at "e"
   refine kw_nil ?_; refine cv_range fun t u v => ?_; exact ⟨_, mk_range (n := 4) (.name _ _) hA'.handled (by decide), nat_lst 4, .mk [(0, 0)] [(0, 1)] o8 none none fun _ => hlay0⟩
 . rintro pre k post _ τ' hτ hl ⟨lay, tab, du, sz, stt, hlay⟩ KF hKF; obtain ⟨e0, hk4⟩ := range_split hl; rw [e0] at hKF; rw [e0, length_range] at hlay; have k3 : (c3, AEnt.cell (some (.list (found.map stA)))) ∈ τ' := hτ _ (.head _); have k10 : (c10, AEnt.cell (some (.dict (fA fit)))) ∈ τ' := hτ _ (.tail _ (.head _)); have k11 : (c11, AEnt.cell (some (.dict (dI moves)))) ∈ τ' := hτ _ (.tail _ (.tail _ (.head _))); have k14 : (c14, AEnt.cell (some (.list (syms.map AV.int)))) ∈ τ' := hτ _ (.tail _ (.tail _ (.tail _ (.head _)))); have hL := hlay hk4; have O := hok k lay tab (by lia) hL; have hsmall := O.small
   have hkeys : ((dI lay).map fun p => AV.int p.1) = (lay.map (·.1)).map AV.int := by rw [map_map, map_map]; rfl
   have hkeys' : ((dI lay).map fun p => AV.int p.1) = lay.map fun p => AV.int p.1 := by rw [map_map]; rfl
   have hfl : ((fit.map (·.1)).filter (inLay k)).length = lay.length := by rw [O.perm.length_eq, length_map]
   have hfk : ((fA fit).map fun p => AV.int p.1) = (fit.map (·.1)).map AV.int := by rw [map_map, map_map]; rfl
   have hkeep := keepF_flat k (fit.map (·.1))
   have hlook := lookF_flat O.nd; have hget : ∀ p ∈ lay, gGet (dI lay) p.1 = some (.int p.2) := fun p hp => by rw [gGet_map, gGet_mem O.nd hp]; rfl
   walk_at "a"; refine exs_cons (ex_assign ?_ rfl (swapped_cell2 hE (by walk_at "m") rfl) rfl); refine ev_tuple ?_; iterate 3 walk_at "e"
   refine ⟨.inl rfl, .builtin _, ?_⟩; walk_at "e"; refine ev_lc (m0 := [("word", none)]) [("size", c8)] rfl (by decide) hE rfl (by walk_at "s") (by decide) (allNone_of rfl) (fun _ => rfl) ?_; refine evIter_of ?_; walk_at "e"; refine ⟨_, mk_dict (.name _ _) hA'.handled, ?_⟩; rw [hfk]; refine ⟨_, core_L1 (keepF k) (by rw [hkeep, length_map, hfl, sizeLine_eq]; lia) ?_, ?_⟩
   . intro d hd Lc cenv τ2 hτ2 hE'; obtain ⟨wd, hwd, rfl⟩ := List.mem_map.mp hd; walk_at "a"; refine tests_one ?_; refine it_chain2 ?_ rfl; iterate 3 walk_at "e"
     refine name_free hE' (by walk_at "m") (by walk_at "m") (mem_cons_of_mem _ (hτ2 _ (by walk_at "m"))) ?_; refine bin_pow ?_ (by lia) (by lia) (by decide); walk_at "e"; refine bin_div ?_ (by decide) (by decide); walk_at "e"; refine cmp_le ⟨_, rfl, ?_⟩; rw [toNat_natCast]; by_cases hlo : (512 : Int) ^ k / 512 <= wd
     . refine if_t (decide_eq_true hlo) ?_; iterate 2 walk_at "e"
       refine name_free hE' (by walk_at "m") (by walk_at "m") (mem_cons_of_mem _ (hτ2 _ (by walk_at "m"))) ?_; refine bin_pow ?_ (by lia) (by lia) (by decide); refine cmp_lt ⟨_, rfl, ?_⟩; rw [toNat_natCast]; by_cases hhi : wd < (512 : Int) ^ k
       . refine if_t (decide_eq_true hhi) ?_; walk_at "e"; exact ⟨keepF_t hlo hhi, _, .none .nil, rfl⟩
       . refine if_f (by simpa using hhi) ?_; exact ⟨keepF_f fun e => hhi e.2, _, .none .nil, rfl⟩
     . refine if_f (by simpa using hlo) (if_f (by decide) ?_); exact ⟨keepF_f fun e => hlo e.1, _, .none .nil, rfl⟩
   rw [hkeep]; walk_at "e"; refine kw_nil ?_; refine cv_sorted_of (coll_list .frozen (by rw [length_map, hfl, sizeLine_eq]; lia)) (by lia) fun due hdp hds => ?_; walk_at "e"; refine ev_lc (m0 := [("word", none)]) [("layer", c9)] rfl (by decide) hE rfl (by walk_at "s") (by decide) (allNone_of rfl) (fun _ => rfl) ?_; refine evIter_of ?_; walk_at "e"; refine ⟨_, mk_dict (.name _ _) hA'.handled, ?_⟩; rw [hkeys']; refine ⟨_, core_L1 (lookF lay) (by rw [hlook, length_map, length_map, sizeLine_eq]; lia) ?_, ?_⟩
   . intro d hd Lc cenv τ2 hτ2 hE'; obtain ⟨p, hp, rfl⟩ := List.mem_map.mp hd; walk_at "a"; refine tests_nil ?_; refine if_t rfl ?_; walk_at "e"; refine name_free hE' (by walk_at "m") (by walk_at "m") (mem_cons_of_mem _ (hτ2 _ (by walk_at "m"))) ?_; walk_at "e"; refine st_dict .frozen (gi_dict .frozen (hget p hp) ?_) (fun _ _ => rfl); exact ⟨lookF_at (gGet_mem O.nd hp), _, .none .nil, rfl⟩
   rw [hlook]; walk_at "e"; refine ⟨szle rfl, ?_⟩; refine as_tuple hA'.handled rfl rfl ?_; walk_at "a"; walk_at "a"; refine exs_cons (ex_if ?_); iterate 4 walk_at "e"
   refine ⟨.inl rfl, .builtin _, ?_⟩; iterate 3 walk_at "e"
   refine kw_nil ?_
   refine cv_sorted_of (l := lay.map (·.1)) (hkeys ▸ coll_dict (A := A'.in1) hA'.handled .frozen (szm (by lia))) (by rw [length_map]; lia) fun due2 hd2p hd2s => ?_
   have hdd : due2 = due := perm_sorted_le (fun a b h1 h2 => Int.le_antisymm h1 h2) ((hd2p.trans O.perm.symm).trans hdp.symm) hd2s hds; subst hdd; have hdl : due2.length = lay.length := by rw [hd2p.length_eq, length_map]
   walk_at "e"; refine cmp_ne_same (xs := due2.map Dat.int) hu .frozen .frozen (isDats_ints _) (isDats_ints _) (ok_ints 8 _) ⟨_, rfl, ?_⟩; refine if_f (by decide) ?_; iterate 2 walk_at "e"
   refine ev_lc (m0 := [("word", none)]) [("fitting", c10), ("found", c3), ("layer", c9)] rfl (by decide) hE rfl (by walk_at "s") (by decide) (allNone_of rfl) (fun _ => rfl) ?_; refine evIter_of ?_; walk_at "e"; refine ⟨_, mk_dict (.name _ _) hA'.handled, ?_⟩; rw [hkeys']; refine ⟨_, core_L1 (fun _ => []) (by rw [flat_nil]; exact zero_le _) ?_, ?_⟩
   . intro d hd Lc cenv τ2 hτ2 hE'; obtain ⟨p, hp, rfl⟩ := List.mem_map.mp hd; obtain ⟨j, s, its, e1, e2, e3, e4, e5⟩ := O.item p hp; have hsm := mem_of_getElem? e2; have hjl := (List.getElem?_eq_some_iff.mp e2).1; have hs4 := hs40 s hsm; walk_at "a"; refine tests_one ?_; iterate 2 walk_at "e"
     refine name_free hE' (by walk_at "m") (by walk_at "m") (mem_cons_of_mem _ (hτ2 _ (by walk_at "m"))) ?_; walk_at "e"; refine name_free hE' (by walk_at "m") (by walk_at "m") (mem_cons_of_mem _ (hτ2 _ (by walk_at "m"))) ?_; walk_at "e"; refine st_dict .frozen (gi_dict .frozen (hget p hp) ?_) (fun _ _ => rfl); rw [e1]; refine st_list (k := (j : Int)) .frozen (gi_list .frozen (by lia) (by lia) (e := stA s) (by rw [toNat_natCast, getElem?_map, e2]; rfl) ?_) (fun _ _ => rfl); iterate 2 walk_at "e"
     refine ⟨.inl rfl, .builtin _, ?_⟩; iterate 2 walk_at "e"
     refine name_free hE' (by walk_at "m") (by walk_at "m") (mem_cons_of_mem _ (hτ2 _ (by walk_at "m"))) ?_; walk_at "e"; refine st_dict .frozen (gi_dict .frozen (e := .list (its.map AV.int)) (by exact (gGet_map (fun l : List Int => AV.list (l.map AV.int)) fit p.1).trans (by rw [e3]; rfl)) ?_) (fun _ _ => rfl); walk_at "e"; refine kw_nil ?_; have hil : its.length = s.length := by rw [e4.length_eq, length_map]
     refine cv_sorted_of (coll_list .frozen (szm (by lia))) (by lia) fun so hsp hss => ?_
     have hso : so = s.map fun n : Nat => (n : Int) := perm_sorted_le (fun a b h1 h2 => Int.le_antisymm h1 h2) (hsp.trans e4) hss (by
       rw [pairwise_map]; exact e5.imp fun h => by lia)
     have hst : stA s = .list (so.map AV.int) := by rw [hso, map_map]; rfl
     rw [hst]; refine cmp_ne_same (xs := so.map Dat.int) hu .frozen .frozen (isDats_ints _) (isDats_ints _) (ok_ints 8 _) ⟨_, rfl, ?_⟩; refine if_f (by decide) ?_; exact ⟨rfl, _, .none .nil, rfl⟩
   rw [flat_nil]; refine tr_list .frozen (zero_le _) ?_; refine if_f (by decide) ?_; iterate 3 walk_at "e"
   refine ev_dc (m0 := [("state", none)]) [("states", c7)] X.G.sysm rfl (by decide) hE rfl (by walk_at "s") (by decide) (allNone_of rfl) (fun _ => rfl) ?_; refine evIter_of ?_; walk_at "e"; obtain ⟨hc1, hc2⟩ := cntD_same O.tnd O.tab
   refine ⟨_, mk_list (.name _ _) hA'.handled (.inl rfl), _, core_D1 (cntF (lay.map (·.2))) (by rw [cntF_flat, length_map, length_map, length_map, sizeLine_eq]; lia) ?_, ?_⟩
   . intro d hd Lc cenv τ2 hτ2 hE'; obtain ⟨s, hs, rfl⟩ := List.mem_map.mp hd; walk_at "a"; refine tests_nil ?_; refine if_t rfl ?_; walk_at "e"; refine ev_mcall ?_ rfl rfl ⟨_, _, rfl⟩; refine name_free hE' (by walk_at "m") (by walk_at "m") (mem_cons_of_mem _ (hτ2 _ (by walk_at "m"))) ?_; refine ⟨_, _, meth_list_fz PySem.F.slot_list_count PySem.F.type_list_count, .builtin _, ?_⟩; iterate 3 walk_at "e"
     refine kw_nil ?_; exact cv_count .frozen ⟨_, rfl, rfl, _, .none .nil, rfl⟩
   rw [cntF_flat]
   have hput := putAll_dI ((lay.map (·.2)).map fun s => (s, (((lay.map (·.2)).count s : Nat) : Int))) []
   rw [show dI [] = ([] : List (Int × AV)) from rfl] at hput; rw [hput]
   refine cmp_ne_dicts (t := tab) (u := cntD (lay.map (·.2))) hu2 .frozen .frozen hc1 hc2 ⟨_, rfl, ?_⟩
   refine if_f (by decide) ?_; iterate 4 walk_at "e"
   refine ⟨.inl rfl, .fn _, ?_⟩; iterate 3 walk_at "e"
   refine kw_nil ?_; refine cntC_call (σ := _ :: _ :: _ :: _ :: τ') X (hA'.le (by decide)) ?_; iterate 2 walk_at "e"
   refine ⟨.inl rfl, .builtin _, ?_⟩; iterate 3 walk_at "e"
   refine kw_nil ?_; refine cv_len_list .frozen (szm (by lia)) ?_; rw [length_map, hdl]
   have hsum : sumC tab = (lay.length : Nat) := by
     unfold sumC; rw [sumC_eq, Int.zero_add, tab_sum tab _ O.tnd O.tab, length_map]
   rw [hsum]; refine cmp_ne ⟨_, rfl, ?_⟩; refine if_f (by rw [bne_self_eq_false]; decide) ?_; refine it_or_nil ?_; refine if_f (by decide) ?_; refine exs_nil ?_; refine exs_cons (ex_if ?_); iterate 3 walk_at "e"
   refine cmp_lt ⟨_, rfl, ?_⟩; by_cases hk3 : k < 3
   . refine if_t (by simp; lia) ?_; have hL' := hstep k lay tab hk3 hL; have O' := hok (k + 1) _ _ (by lia) hL'; have htl := tab_len O.tnd O.tab; rw [length_map] at htl; have hnx : (lay.map fun p => AV.int p.1).flatMap (nextF moves syms lay) = dI (layNext moves syms lay) := nextF_flat O.nd; have hnl := O'.small; refine exs_cons (ex_assign ?_ (swaps_cell hE (by walk_at "m") (.inr ⟨_, _, _, _, _, rfl⟩)) rfl rfl); refine ev_dc (m0 := [("word", none), ("symbol", none)]) [("layer", c9), ("moves", c11), ("symbols", c14)] X.G.sysm rfl (by decide) hE rfl (by walk_at "s") (by decide) (allNone_of rfl) (fun _ => rfl) ?_; refine evIter_of ?_; walk_at "e"; refine ⟨_, mk_dict (.name _ _) hA'.handled, ?_⟩; rw [hkeys']; refine ⟨_, core_D2 (nextF moves syms lay) (by rw [hnx, length_map, sizeLine_eq]; lia) (fun _ _ => rfl) ?_, ?_⟩
     . intro d hd Lc cenv τ2 hτ2 hE'; obtain ⟨p, hp, rfl⟩ := List.mem_map.mp hd; walk_at "a"; refine tests_nil ?_; refine if_t rfl ?_; refine evIter_of ?_; refine name_free hE' (by walk_at "m") (by walk_at "m") (mem_cons_of_mem _ (hτ2 _ (by walk_at "m"))) ?_; refine ⟨_, mk_list (.name _ _) hA'.handled (.inl rfl), [("word", some (.int p.1)), ("symbol", none)], symF moves p, .none (.none .nil), rfl, nextF_at (gGet_mem O.nd hp), ?_⟩
       . intro d' hd' τ3 hτ3; obtain ⟨sy, hsy, rfl⟩ := List.mem_map.mp hd'; walk_at "a"; refine tests_one ?_; iterate 5 walk_at "e"
         refine name_free hE' (by walk_at "m") (by walk_at "m") (mem_cons_of_mem _ (hτ3 _ (by walk_at "m"))) ?_; walk_at "e"; refine st_dict .frozen (gi_dict .frozen (hget p hp) ?_) (fun _ _ => rfl); refine bin_mul ?_ (.inl (by decide)); walk_at "e"; refine bin_add ?_; refine name_free hE' (by walk_at "m") (by walk_at "m") (mem_cons_of_mem _ (hτ3 _ (by walk_at "m"))) ?_; refine in_dict .frozen ⟨_, rfl, ?_⟩; rw [gGet_map]
         cases hm : gGet moves (512 * p.2 + sy) with
         | none =>
           refine if_f (by decide) ?_; exact ⟨symF_none hm, _, .some (.none .nil), rfl⟩
         | some t =>
           refine if_t (show ((some t).map AV.int).isSome = true from rfl) ?_; iterate 4 walk_at "e"
           refine bin_mul ?_ (.inl (by decide)); walk_at "e"; refine bin_add ?_; walk_at "e"; refine name_free hE' (by walk_at "m") (by walk_at "m") (mem_cons_of_mem _ (hτ3 _ (by walk_at "m"))) ?_; iterate 4 walk_at "e"
           refine name_free hE' (by walk_at "m") (by walk_at "m") (mem_cons_of_mem _ (hτ3 _ (by walk_at "m"))) ?_; walk_at "e"; refine st_dict .frozen (gi_dict .frozen (hget p hp) ?_) (fun _ _ => rfl); refine bin_mul ?_ (.inl (by decide)); walk_at "e"; refine bin_add ?_; refine st_dict .frozen (gi_dict .frozen (e := .int t) (by rw [gGet_map, hm]; rfl) ?_) (fun _ _ => rfl); exact ⟨_, rfl, symF_some hm, _, .some (.none .nil), rfl⟩
     rw [hnx]
     have hpn : putAll [] (dI (layNext moves syms lay)) = dI (layNext moves syms lay) := by
       have := putAll_new (dI (layNext moves syms lay)) [] (by rw [nil_append, map_map]; exact O'.nd); rwa [nil_append] at this
     rw [hpn]; walk_at "a"; walk_at "g"; iterate 2 walk_at "e"
     refine ⟨.inl rfl, .fn _, ?_⟩; iterate 5 walk_at "e"
     refine kw_nil ?_; refine furt_call (σ := _ :: _ :: _ :: _ :: τ') X (hA'.le (by decide)) (by rw [sizeLine_eq]; lia) hmn ?_; walk_at "a"; exact exs_nil (exs_nil (hKF _ _ ⟨_, .refl _, .mk _ _ _ _ _ (by rw [length_append, length_range]; exact fun _ => hL')⟩))
   . refine if_f (by simp; lia) ?_; exact exs_nil (exs_nil (hKF _ _ ⟨_, .refl _, .mk lay tab _ _ _ (by rw [length_append, length_range]; exact fun q => absurd (Nat.lt_of_succ_lt_succ q) hk3)⟩))
 . intro σ₁ h'; replace h' := h'.resolve_right id; obtain ⟨lay, tab, du, sz, stt, hlay⟩ := h'; exact h _ _ _ _ _ _
end
end
section
noncomputable def opens : Nat -> List Int -> List Nat
 | _, [] => []
 | k, s :: l => (if 255 < s then [k] else []) ++ opens (k + 1) l
theorem opens_c (k : Nat) (s : Int) (l : List Int) : opens k (s :: l) = (if 255 < s then [k] else []) ++ opens (k + 1) l := rfl
noncomputable def openF : AV -> List AV
 | .tuple [.int k, .int s] => if 255 < s then [.int k] else []
 | _ => []
theorem openF_flat : ∀ (l : List Int) (k : Nat), (enumD k (l.map AV.int)).flatMap openF = (opens k l).map nA
 | [], _ => rfl
 | s :: l, k => by
   show (AV.tuple [.int k, .int s] :: enumD (k + 1) (l.map AV.int)).flatMap openF = _; rw [flatMap_cons, openF_flat l (k + 1)]
   show (if 255 < s then [AV.int k] else []) ++ _ = ((if 255 < s then [k] else []) ++ opens (k + 1) l).map nA
   rw [map_append]
   congr 1
   split <;> rfl
theorem opens_mem : ∀ (l : List Int) (k : Nat) {i : Nat}, i ∈ opens k l ↔ k <= i /\ i < k + l.length /\ 255 < l.getD (i - k) 0
 | [], k, i => by
   constructor
   . intro h; cases h
   . rintro ⟨h1, h2, _⟩; exact absurd h2 (Nat.not_lt.mpr h1)
 | s :: l, k, i => by
   rw [opens_c]; rw [mem_append, opens_mem l (k + 1), length_cons]; constructor
   . rintro (h | ⟨h1, h2, h3⟩)
     . split at h
       . rw [List.mem_singleton.mp h, sub_self]; exact ⟨le_refl _, Nat.lt_add_of_pos_right (succ_pos _), by assumption⟩
       . cases h
     . rw [add_right_comm] at h2; refine ⟨le_of_succ_le h1, h2, ?_⟩; rw [sub_s h1, List.getD_cons_succ]; exact h3
   . rintro ⟨h1, h2, h3⟩; rcases Nat.eq_or_lt_of_le h1 with rfl | h1
     . left; rw [sub_self, List.getD_cons_zero] at h3; rw [if_pos h3]; exact List.mem_singleton.mpr rfl
     . right; refine ⟨h1, by rw [add_right_comm]; exact h2, ?_⟩; rwa [sub_s h1, List.getD_cons_succ] at h3
theorem opens_sorted : ∀ (l : List Int) (k : Nat), (opens k l).Pairwise (· < ·)
 | [], _ => .nil
 | s :: l, k => by
   rw [opens_c]; split
   . refine List.pairwise_cons.mpr ⟨fun i hi => ?_, opens_sorted l (k + 1)⟩; exact ((opens_mem l (k + 1)).mp hi).1
   . exact opens_sorted l (k + 1)
theorem opens_len : ∀ (l : List Int) (k : Nat), (opens k l).length <= l.length
 | [], _ => le_refl _
 | s :: l, k => by
   have := opens_len l (k + 1); rw [opens_c]; rw [length_append, length_cons]; rw [add_comm]; refine add_le_add this ?_; split
   . exact le_refl 1
   . exact zero_le 1
noncomputable def ruOf : Nat -> List (List Int) -> Int -> List Nat
 | _, [], _ => []
 | j, r :: l, X => (if r.headD 0 = X then [j] else []) ++ ruOf (j + 1) l X
theorem ruOf_c (j : Nat) (r : List Int) (l : List (List Int)) (X : Int) : ruOf j (r :: l) X = (if r.headD 0 = X then [j] else []) ++ ruOf (j + 1) l X := rfl
noncomputable def ruF (X : Int) : AV -> List AV
 | .tuple [.int k, .tuple (.int s :: _)] => if s = X then [.int k] else []
 | _ => []
theorem ruF_flat {X : Int} : ∀ (l : List (List Int)) (j : Nat), (∀ r ∈ l, r ≠ []) -> (enumD j (l.map tA)).flatMap (ruF X) = (ruOf j l X).map nA
 | [], _, _ => rfl
 | r :: l, j, h => by
   have ih := ruF_flat (X := X) l (j + 1) fun r hr => h r (mem_cons_of_mem _ hr)
   cases r with
   | nil => exact absurd rfl (h [] mem_cons_self)
   | cons s r =>
     show (AV.tuple [.int j, tA (s :: r)] :: enumD (j + 1) (l.map tA)).flatMap (ruF X) = _; rw [flatMap_cons, ih]
     show (if s = X then [AV.int j] else []) ++ _ = ((if s = X then [j] else []) ++ ruOf (j + 1) l X).map nA
     rw [map_append]
     congr 1
     split <;> rfl
theorem ruOf_len {X : Int} : ∀ (l : List (List Int)) (j : Nat), (ruOf j l X).length <= l.length
 | [], _ => le_refl _
 | r :: l, j => by
   have := ruOf_len (X := X) l (j + 1); rw [ruOf_c]; rw [length_append, length_cons]; rw [add_comm]; refine add_le_add this ?_; split
   . exact le_refl 1
   . exact zero_le 1
noncomputable def walkTo (moves : List (Int × Int)) (l : List Int) : Int := l.foldl (fun p X => (gGet moves (512 * p + X)).getD (-1)) 0
theorem walkTo_snoc (moves : List (Int × Int)) (l : List Int) (X : Int) : walkTo moves (l ++ [X]) = (gGet moves (512 * walkTo moves l + X)).getD (-1) := by
 unfold walkTo; rw [foldl_append]; rfl
noncomputable def idxOf (d4 : Int) (k : Nat) : Int := if k ≠ 0 /\ k < 4 then (d4 / 4 / 2 ^ k + k) % 2 else 0
structure LinOk (rs : List (List Int)) (found : List (List Nat)) (moves : List (Int × Int)) (d4 : Int) (k : Nat) (line : List Int) (Next : List Int -> Prop) : Prop where
 len : line.length <= 100
 go : ∀ last, (opens 0 line).getLast? = some last -> ∃ (r : Nat) (rule : List Int), (ruOf 0 rs (line.getD last 0))[(idxOf d4 k).toNat]? = some r /\ rs[r]? = some rule /\ rule ≠ [] /\
   Next (line.take last ++ rule.drop 1 ++ line.drop (last + 1)) /\ ∀ size, (size = 0 \/ size = rule.length - 1) ->
     ∃ (j : Nat) (s : List Nat), walkTo moves ((line.take last ++ rule.drop 1 ++ line.drop (last + 1)).take (last + size)) = (j : Int) /\ found[j]? = some s /\ 8 * r + size ∈ s
theorem idx_nn (d4 : Int) (k : Nat) : 0 <= idxOf d4 k /\ idxOf d4 k < 2 := by
 unfold idxOf; split
 . exact emB _ (by decide)
 . decide
end
section
section
variable {C : Cx} {A : Around} {σ : St} (X : Wd C) (I : Ki C)
theorem pow2_small {k : Nat} (h : k ≠ 0 /\ k < 4) : (0 : Int) < 2 ^ k /\ (2 : Int) ^ k < 1073741824 := by
 rcases nat4 k h.2 with e | e | e | e
 . exact absurd e h.1
 all_goals rw [e]; decide
theorem last_get {l : List Nat} {last : Nat} (h : l.getLast? = some last) : (l.map nA)[(((-1 : Int)) + ((l.map nA).length : Nat)).toNat]? = some (nA last) := by
 rw [length_map, show ((-1 : Int) + (l.length : Nat)).toNat = l.length - 1 by rw [Int.add_comm]; exact Int.toNat_sub _ 1, getElem?_map, <- List.getLast?_eq_getElem?, h]; rfl
theorem mv_getD (moves : List (Int × Int)) (k : Int) : (gGet (dI moves) k).getD (.int (-1)) = .int ((gGet moves k).getD (-1)) := by
 rw [gGet_map]; cases gGet moves k <;> rfl
noncomputable abbrev l7S (L c5 c6 c8 : Addr) (ρ : List (Str × Option AV)) (l5 : List Int) (rs : List (List Int)) (opl osy ost oop oru ol oln osz : Option AV) (τ : St) : St :=
 (L, .ns (("drawn", some (wlI l5)) :: ("rules", some (lrA rs)) :: ("place", opl) :: ("symbol", osy) :: ("step", ost) :: ("open_ones", oop) :: ("rule", oru) :: ρ)) :: (c5, .cell ol) :: (c6, .cell oln) :: (c8, .cell osz) :: τ
section
variable {L c5 c6 c8 : Addr} {ρ : List (Str × Option AV)} {l5 : List Int} {rs : List (List Int)}
inductive L7I (L c5 c6 c8 : Addr) (ρ : List (Str × Option AV)) (l5 : List Int) (rs : List (List Int)) (Lin : Nat -> List Int -> Prop) (pre : List Nat) (τ : St) : St -> Prop
 | mk (line : List Int) (opl osy ost oop oru ol osz : Option AV) (h : Lin pre.length line) : L7I L c5 c6 c8 ρ l5 rs Lin pre τ (l7S L c5 c6 c8 ρ l5 rs opl osy ost oop oru ol (some (tA line)) osz τ)
theorem L7I.par {Lin : Nat -> List Int -> Prop} {pre : List Nat} : Par (L7I L c5 c6 c8 ρ l5 rs Lin pre) := fun τ σ h => by
 cases h with | mk a b c d e f g i j => exact ⟨[_, _, _, _], rfl, fun τ' => .mk a b c d e f g i j⟩
inductive L7B (L c5 c6 c8 : Addr) (ρ : List (Str × Option AV)) (l5 : List Int) (rs : List (List Int)) (τ : St) : St -> Prop
 | mk (opl osy ost oop oru ol oln osz : Option AV) : L7B L c5 c6 c8 ρ l5 rs τ (l7S L c5 c6 c8 ρ l5 rs opl osy ost oop oru ol oln osz τ)
theorem L7B.par : Par (L7B L c5 c6 c8 ρ l5 rs) := fun τ σ h => by
 cases h with | mk a b c d e f g i => exact ⟨[_, _, _, _], rfl, fun τ' => .mk a b c d e f g i⟩
inductive L7J (L c5 c6 c8 : Addr) (ρ : List (Str × Option AV)) (l5 : List Int) (rs : List (List Int)) (ost oop oru ol oln : Option AV) (pre : List Nat) (τ : St) : St -> Prop
 | mk (opl osy osz : Option AV) : L7J L c5 c6 c8 ρ l5 rs ost oop oru ol oln pre τ (l7S L c5 c6 c8 ρ l5 rs opl osy ost oop oru ol oln osz τ)
theorem L7J.par {ost oop oru ol oln : Option AV} {pre : List Nat} : Par (L7J L c5 c6 c8 ρ l5 rs ost oop oru ol oln pre) := fun τ σ h => by
 cases h with | mk a b c => exact ⟨[_, _, _, _], rfl, fun τ' => .mk a b c⟩
inductive L7K (L c5 c6 c8 : Addr) (ρ : List (Str × Option AV)) (l5 : List Int) (rs : List (List Int)) (moves : List (Int × Int)) (ost oop oru ol oln osz : Option AV) (pre : List Int) (τ : St) : St -> Prop
 | mk (osy : Option AV) : L7K L c5 c6 c8 ρ l5 rs moves ost oop oru ol oln osz pre τ (l7S L c5 c6 c8 ρ l5 rs (some (.int (walkTo moves pre))) osy ost oop oru ol oln osz τ)
theorem L7K.par {moves : List (Int × Int)} {ost oop oru ol oln osz : Option AV} {pre : List Int} : Par (L7K L c5 c6 c8 ρ l5 rs moves ost oop oru ol oln osz pre) := fun τ σ h => by
 cases h with | mk a => exact ⟨[_, _, _, _], rfl, fun τ' => .mk a⟩
end
theorem two_lst (n : Nat) (h : 1 <= n) : [AV.int 0, AV.int ((n : Nat) - 1)] = lst (fun _ i => nA i) 0 [0, n - 1] := by
 show _ = [nA 0, nA (n - 1)]; rw [show ((n : Nat) : Int) - 1 = ((n - 1 : Nat) : Int) from (Int.ofNat_sub h).symm]; rfl
include X I in
theorem law_7 {A' : Around} {env : Env} {L c3 c5 c6 c8 c11 : Addr} {cells : List (Str × Addr)} {ρ : List (Str × Option AV)} {τ : St} {Q : AFlow -> St -> Prop} (hA' : AOk 20 A') (hE : EnvIs env L lawNames cells) (m3 : (("found" : Str), c3) ∈ cells) (m5 : (("last" : Str), c5) ∈ cells) (m6 : (("line" : Str), c6) ∈ cells) (m8 : (("size" : Str), c8) ∈ cells) (m11 : (("moves" : Str), c11) ∈ cells)
   {d0 d1 d2 d3 d4 : Int} {o6 o20 : Option AV} {rs : List (List Int)} {found : List (List Nat)} {moves : List (Int × Int)}
   (hlen : rs.length <= 8) (hrl : ∀ r ∈ rs, r.length <= 8 /\ r ≠ []) (hf1 : found.length <= 63) (hs40 : ∀ s ∈ found, s.length <= 40)
   {Lin : Nat -> List Int -> Prop} (hl0 : Lin 0 [256]) (hlin : ∀ k line, k < 7 -> Lin k line -> LinOk rs found moves d4 k line (Lin (k + 1)))
   (hQ : ∀ τ', (∀ p ∈ τ, p ∈ τ') -> Q (.ret (.bool true)) τ') :
   Ef C A' (execs (lawBody.drop 17) env) (l7S L c5 c6 c8 ρ [d0, d1, d2, d3, d4] rs o6 none none none none none none o20 ((c3, .cell (some (.list (found.map stA)))) :: (c11, .cell (some (.dict (dI moves)))) :: τ)) Q := by
 have hu : A'.units + 64 < cLine := hA'.eqRoom; walk_at "g"; refine ev_tuple ?_; iterate 3 walk_at "e"
 refine ⟨szle rfl, ?_⟩; walk_at "a"; refine exs_cons ?_; refine ex_forP (τ := (c3, .cell (some (.list (found.map stA)))) :: (c11, .cell (some (.dict (dI moves)))) :: τ) (List.range 7) (fun _ i => .int i) (L7I L c5 c6 c8 ρ [d0, d1, d2, d3, d4] rs Lin) (L7B L c5 c6 c8 ρ [d0, d1, d2, d3, d4] rs) (fun _ _ _ => False) (fun _ => L7I.par) L7B.par (fun _ => Par.no) ?_ ?_ ?_ (fun _ _ h => h.elim) (fun _ => rfl)
 . refine evIter_of ?_; iterate 2 walk_at "e"
   refine ⟨.inl rfl, .type _, ?_⟩; iterate 3 walk_at "e"
   refine kw_nil ?_; refine cv_range fun t u v => ?_; exact ⟨_, mk_range (n := 7) (.name _ _) hA'.handled (by decide), nat_lst 7, .mk [256] o6 none none none none none o20 hl0⟩
 . rintro pre k post _ τ' hτ hl ⟨line, opl, osy, ost, oop, oru, ol, osz, hlk⟩ KF hKF; obtain ⟨e0, hk7⟩ := range_split hl; rw [e0] at hKF; rw [e0, length_range] at hlk; have k3 : (c3, AEnt.cell (some (.list (found.map stA)))) ∈ τ' := hτ _ (.head _); have k11 : (c11, AEnt.cell (some (.dict (dI moves)))) ∈ τ' := hτ _ (.tail _ (.head _)); have O := hlin k line hk7 hlk; have hll := O.len; have hzl : (line.map AV.int).length <= sizeLine := szm (le_trans hll (by decide)); have hopl := opens_len line 0; have hopf := openF_flat line 0; walk_at "a"; refine exs_cons (ex_asg_lc (m0 := [("place", none), ("symbol", none)]) [] rfl (by decide) hE rfl (by walk_at "s") (by decide) (allNone_of rfl) (fun _ => rfl) (by walk_at "m") rfl (by decide) ?_); refine evIter_call (T := "enumerate") ?_ rfl rfl ⟨_, _, rfl⟩; walk_at "e"; refine ⟨rfl, ?_⟩; iterate 3 walk_at "e"
   refine ⟨_, mkc_enum_tuple hA'.handled, _, core_L1 openF (by rw [hopf, length_map, sizeLine_eq]; lia) ?_, ?_⟩
   . intro d hd Lc cenv τ2 hτ2 hE'; obtain ⟨j, e, he, _, _, rfl⟩ := enumD_mem hd; obtain ⟨s, hs, rfl⟩ := List.mem_map.mp he; refine as_tuple hA'.handled rfl rfl ?_; walk_at "a"; walk_at "a"; refine tests_one ?_; iterate 3 walk_at "e"
     refine cmp_gt ⟨_, rfl, ?_⟩; by_cases h0 : 255 < s
     . refine if_t (by simpa using h0) ?_; walk_at "e"
       exact ⟨by show (if 255 < s then _ else _) = _; rw [if_pos h0], _, .none (.none .nil), rfl⟩
     . refine if_f (by simpa using h0) ?_
       exact ⟨by show (if 255 < s then _ else _) = _; rw [if_neg h0], _, .none (.none .nil), rfl⟩
   rw [hopf]; refine ex3 (by walk_at "m") (by walk_at "m") ?_; refine exs_cons (ex_if ?_); iterate 2 walk_at "e"
   refine ev_list ?_; walk_at "e"; refine ⟨szle rfl, ?_⟩; have hon : (opens 0 line).map nA = ((opens 0 line).map fun i : Nat => (i : Int)).map AV.int := by rw [map_map]; rfl
   rw [hon]; refine cmp_eq_lists (xs := ((opens 0 line).map fun i : Nat => (i : Int)).map Dat.int) (ys := []) hA' .frozen .frozen (isDats_ints _) .nil (ok_ints 8 _) (fun _ h => nomatch h) fun t ht => ⟨_, rfl, ?_⟩; rw [<- hon]
   cases t with
   | true =>
     refine if_t rfl ?_; refine exs_cons (ex_break ?_); exact hKF _ _ ⟨_, .refl _, .mk _ _ _ _ _ _ _ _⟩
   | false =>
     refine if_f (by decide) ?_; refine exs_nil ?_
     have hone : opens 0 line ≠ [] := fun e => by
       rw [e] at ht; exact absurd (ht.mpr rfl) (by decide)
     obtain ⟨last, hlast⟩ : ∃ last, (opens 0 line).getLast? = some last := ⟨_, List.getLast?_eq_some_getLast hone⟩; obtain ⟨r, rule, g1, g2, g3, g4, g5⟩ := O.go last hlast; have hlm : last ∈ opens 0 line := List.mem_of_getLast? hlast; obtain ⟨_, hlb, hlg⟩ := (opens_mem line 0).mp hlm; rw [zero_add] at hlb; rw [sub_zero] at hlg; have hop1 : 1 <= (opens 0 line).length := List.length_pos_iff.mpr hone; have hgl := last_get hlast; walk_at "g"; iterate 4 walk_at "e"
     refine un_neg ?_; refine st_list (k := -1) .frozen (gi_list_neg .frozen (by decide) (by rw [length_map]; lia) (by decide) hgl ?_) (fun _ _ => rfl); walk_at "a"; have hruf := ruF_flat (X := line.getD last 0) rs 0 fun r hr => (hrl r hr).2; have hrul := ruOf_len (X := line.getD last 0) rs 0; have hlg2 := getD_get last hlb; walk_at "g"; walk_at "e"; refine ev_lc (m0 := [("place", none), ("one", none)]) [("last", c5), ("line", c6)] rfl (by decide) hE rfl (by walk_at "s") (by decide) (allNone_of rfl) (fun _ => rfl) ?_; refine evIter_call (T := "enumerate") ?_ rfl rfl ⟨_, _, rfl⟩; walk_at "e"; refine ⟨rfl, ?_⟩; iterate 3 walk_at "e"
     refine ⟨_, mkc_enum_list hA'.handled (.inl rfl), _, core_L1 (ruF (line.getD last 0)) (by rw [hruf, length_map, sizeLine_eq]; lia) ?_, ?_⟩
     . intro d hd Lc cenv τ2 hτ2 hE'; obtain ⟨j, e, he, _, _, rfl⟩ := enumD_mem hd; obtain ⟨ru, hru, rfl⟩ := List.mem_map.mp he
       obtain ⟨s, rt, rfl⟩ : ∃ s rt, ru = s :: rt := by
         cases ru with
         | nil => exact absurd rfl (hrl [] hru).2
         | cons s rt => exact ⟨s, rt, rfl⟩
       refine as_tuple hA'.handled rfl rfl ?_; walk_at "a"; walk_at "a"; refine tests_one ?_; iterate 4 walk_at "e"
       refine st_tuple (k := 0) (gi_tuple (by decide) (by decide) (e := .int s) rfl ?_) (fun _ _ => rfl); walk_at "e"; refine name_free hE' (by walk_at "m") (by walk_at "m") (mem_cons_of_mem _ (hτ2 _ (by walk_at "m"))) ?_; refine name_free hE' (by walk_at "m") (by walk_at "m") (mem_cons_of_mem _ (hτ2 _ (by walk_at "m"))) ?_; refine st_tupN last (by lia) hlg2 (fun _ _ => rfl) ?_; refine cmp_eq ⟨_, rfl, ?_⟩; by_cases h0 : s = line.getD last 0
       . refine if_t (by simpa using h0) ?_; walk_at "e"
         exact ⟨by show (if s = line.getD last 0 then _ else _) = _; rw [if_pos h0], _, .none (.none .nil), rfl⟩
       . refine if_f (by simpa using h0) ?_
         exact ⟨by show (if s = line.getD last 0 then _ else _) = _; rw [if_neg h0], _, .none (.none .nil), rfl⟩
     rw [hruf]; have hidx := idx_nn d4 k; refine Ev.point (.int (idxOf d4 k)) ?_ ?_
     . walk_at "e"; refine Eb.pointP (k ≠ 0 /\ k < 4) ?_ ?_
       . walk_at "e"; iterate 2 walk_at "e"
         refine tr_int ?_; by_cases h0 : k = 0
         . refine if_f (by simp [h0]) ?_; exact ⟨rfl, by simp [h0]⟩
         . refine if_t (by simp; lia) ?_; iterate 4 walk_at "e"
           refine cmp_lt ⟨_, rfl, ?_⟩; by_cases h4 : k < 4
           . refine if_t (by simp; lia) ?_; exact it_and_nil ⟨rfl, by simp [h0, h4]⟩
           . refine if_f (by simp; lia) ?_; exact ⟨rfl, by simp [h4]⟩
       . intro b hb
         cases b with
         | true =>
           refine if_t rfl ?_; have hb' := hb.mp rfl; iterate 7 walk_at "e"
           refine st_list (k := 4) .frozenW (gi_list .frozenW (by decide) (by decide) (e := .int d4) rfl ?_) (fun _ _ => rfl); walk_at "e"; refine bin_div ?_ (by decide) (by decide); iterate 3 walk_at "e"
           refine bin_pow ?_ (by lia) (by lia) (by decide); rw [toNat_natCast]; have hp2 := pow2_small hb'; refine bin_div ?_ hp2.1 hp2.2; walk_at "e"; refine bin_add ?_; walk_at "e"; refine bin_mod ?_ (by decide); exact ⟨by unfold idxOf; rw [if_pos hb'], rfl⟩
         | false =>
           refine if_f (by decide) ?_; have hb' : ¬ (k ≠ 0 /\ k < 4) := fun h => absurd (hb.mpr h) (by decide); walk_at "e"; exact ⟨by unfold idxOf; rw [if_neg hb'], rfl⟩
     refine st_list (k := idxOf d4 k) .frozen (gi_list .frozen hidx.1 (by lia) (e := nA r) (by rw [getElem?_map, g1]; rfl) ?_) (fun _ _ => rfl); walk_at "a"; have hrm := mem_of_getElem? g2; have hrl8 := (hrl rule hrm).1; have hri := (List.getElem?_eq_some_iff.mp g2).1; have hzr : (rule.map AV.int).length <= sizeLine := szm (le_trans hrl8 (by decide)); have hri9 : r < 1000000000 := lt_of_lt_of_le hri (le_trans hlen (by decide)); have hrl1 : 1 <= rule.length := List.length_pos_iff.mpr g3; walk_at "g"; iterate 4 walk_at "e"
     refine ev_slice (ev_part_none (ev_part_some ?_)); walk_at "e"; refine ⟨none, some (last : Int), .none, .int _, fun l u hl hu' => ?_⟩; refine st_tuple_slice (gi_tuple_slice hl hu' hzl ?_); rw [cut_upto, <- map_take]; iterate 4 walk_at "e"
     refine st_listN .frozen hri9 (e := tA rule) (by rw [getElem?_map, g2]; rfl) (fun _ _ => rfl) ?_; refine ev_slice (ev_part_some ?_); walk_at "e"; refine ev_part_none ⟨some ((1 : Nat) : Int), none, .int _, .none, fun l u hl hu' => ?_⟩; refine st_tuple_slice (gi_tuple_slice hl hu' hzr ?_); rw [cut_from, <- map_drop]; refine bin_add_tuple (szle' (by rw [length_map, length_map, length_drop]; exact le_trans (add_le_add (le_trans (length_take_le' _ _) hll) (le_trans (sub_le _ _) hrl8)) (by decide))) ?_; rw [<- map_append]; iterate 2 walk_at "e"
     refine ev_slice (ev_part_some ?_); iterate 3 walk_at "e"
     refine bin_add ?_; refine ev_part_none ⟨some ((last + 1 : Nat) : Int), none, ?_, .none, fun l u hl hu' => ?_⟩
     . rw [show (last : Int) + 1 = ((last + 1 : Nat) : Int) by lia]; exact .int _
     refine st_tuple_slice (gi_tuple_slice hl hu' hzl ?_); rw [cut_from, <- map_drop]; refine bin_add_tuple (szle' (by rw [length_map, length_map, length_append, length_drop, length_drop]; exact le_trans (add_le_add (add_le_add (le_trans (length_take_le' _ _) hll) (le_trans (sub_le _ _) hrl8)) (le_trans (sub_le _ _) hll)) (by decide))) ?_; rw [<- map_append]; walk_at "a"; obtain ⟨nl, hnl⟩ : ∃ nl, nl = line.take last ++ rule.drop 1 ++ line.drop (last + 1) := ⟨_, rfl⟩; rw [<- hnl] at g4 g5 ⊢; have hnll : nl.length <= 200 := by rw [hnl, length_append, length_append, length_take, length_drop, length_drop]; lia
     have hznl : (nl.map AV.int).length <= sizeLine := szm (le_trans hnll (by decide)); refine exs_cons ?_; refine ex_forP (τ := τ') [0, rule.length - 1] (fun _ i => nA i) (L7J L c5 c6 c8 ρ [d0, d1, d2, d3, d4] rs (some (nA k)) (some (.list ((opens 0 line).map nA))) (some (nA r)) (some (nA last)) (some (tA nl))) (fun _ _ => False) (fun _ _ _ => False) (fun _ => L7J.par) Par.no (fun _ => Par.no) ?_ ?_ ?_ (fun _ _ h => h.elim) (fun _ => rfl)
     . refine evIter_of ?_; refine ev_tuple ?_; iterate 6 walk_at "e"
       refine ⟨.inl rfl, .builtin _, ?_⟩; iterate 4 walk_at "e"
       refine st_listN .frozen hri9 (e := tA rule) (by rw [getElem?_map, g2]; rfl) (fun _ _ => rfl) ?_; walk_at "e"; refine kw_nil ?_; refine cv_len_tuple hzr ?_; rw [length_map]; walk_at "e"; refine bin_sub ?_; walk_at "e"; refine ⟨szle rfl, ?_⟩; exact ⟨_, mk_tuple (.name _ _) hA'.handled, two_lst _ hrl1, .mk opl osy osz⟩
     . rintro pre2 size post2 _ τ2 hτ2 hl2 ⟨opl, osy, osz⟩ KG hKG
       have hsz : size = 0 \/ size = rule.length - 1 := by
         have hm : size ∈ [0, rule.length - 1] := by rw [hl2]; exact mem_append_right _ mem_cons_self
         rcases List.mem_cons.mp hm with e | hm
         . exact .inl e
         . exact .inr (List.mem_singleton.mp hm)
       have n3 := hτ2 _ k3; have n11 := hτ2 _ k11; obtain ⟨j, s, w1, w2, w3⟩ := g5 size hsz; have hjl := (List.getElem?_eq_some_iff.mp w2).1; walk_at "a"; walk_at "g"; walk_at "e"; walk_at "a"; refine exs_cons ?_; refine ex_forP (τ := τ2) (nl.take (last + size)) (fun _ Y => .int Y) (L7K L c5 c6 c8 ρ [d0, d1, d2, d3, d4] rs moves (some (nA k)) (some (.list ((opens 0 line).map nA))) (some (nA r)) (some (nA last)) (some (tA nl)) (some (nA size))) (fun _ _ => False) (fun _ _ _ => False) (fun _ => L7K.par) Par.no (fun _ => Par.no) ?_ ?_ ?_ (fun _ _ h => h.elim) (fun _ => rfl)
       . refine evIter_of ?_; iterate 2 walk_at "e"
         refine ev_slice (ev_part_none (ev_part_some ?_)); iterate 3 walk_at "e"
         refine bin_add ?_; refine ⟨none, some ((last + size : Nat) : Int), .none, ?_, fun l u hl hu' => ?_⟩
         . rw [show (last : Int) + (size : Int) = ((last + size : Nat) : Int) by lia]; exact .int _
         refine st_tuple_slice (gi_tuple_slice hl hu' hznl ?_); rw [cut_upto, <- map_take]; exact ⟨_, mk_tuple (.name _ _) hA'.handled, lst_map AV.int 0 _, .mk osy⟩
       . intro pre3 Y post3 σ₃ τ3 hτ3 hl3 hI KH hKH; have q11 := hτ3 _ n11; cases hI; obtain ⟨pl, hpl⟩ : ∃ pl, pl = walkTo moves pre3 := ⟨_, rfl⟩; rw [<- hpl]; walk_at "a"; walk_at "g"; refine ev_mcall ?_ rfl rfl ⟨_, _, rfl⟩; walk_at "e"; refine ⟨_, _, meth_dict .frozen PySem.F.slot_dict_get PySem.F.type_dict_get, .builtin _, ?_⟩; iterate 5 walk_at "e"
         refine bin_mul ?_ (.inl (by decide)); walk_at "e"; refine bin_add ?_; iterate 3 walk_at "e"
         refine un_neg ?_; walk_at "e"; refine kw_nil ?_; refine cv_dict_get .frozen ?_; rw [mv_getD, hpl, <- walkTo_snoc]; walk_at "a"; exact exs_nil (hKH _ _ ⟨_, .refl _, .mk _⟩)
       . intro σ₃ h; replace h := h.resolve_right id; cases h; rw [w1]; refine exs_cons (ex_if ?_); iterate 5 walk_at "e"
         refine bin_mul ?_ (.inl (by decide)); walk_at "e"; refine bin_add ?_; iterate 3 walk_at "e"
         refine ev_list ?_; walk_at "e"; refine ev_list ?_; walk_at "e"; refine ⟨szle rfl, ?_⟩; walk_at "e"; refine ⟨szle rfl, ?_⟩; refine bin_add_list .frozen .frozen (by rw [length_map, length_singleton, sizeLine_eq]; lia) ?_; walk_at "e"; refine st_listN .frozen (lt_of_lt_of_le hjl (le_trans hf1 (by decide))) (e := stA s) (by rw [getElem?_append_left (by rw [length_map]; exact hjl), getElem?_map, w2]; rfl) (fun _ _ => rfl) ?_; have hsm : stA s = .list ((s.map fun n : Nat => (n : Int)).map AV.int) := by rw [map_map]; rfl
         rw [hsm]; refine cmp_notIn_ints .frozen ⟨_, rfl, ?_⟩; have hin : (8 * (r : Int) + size) ∈ (s.map fun n : Nat => (n : Int)) := List.mem_map.mpr ⟨8 * r + size, w3, by lia⟩; refine if_f (by rw [decide_eq_true hin]; decide) ?_; exact exs_nil (exs_nil (hKG _ _ ⟨_, .refl _, .mk _ _ _⟩))
     . intro σ₂ h; replace h := h.resolve_right id; cases h; exact exs_nil (hKF _ _ ⟨_, .refl _, .mk nl _ _ _ _ _ _ _ (by rw [length_append, length_range]; exact g4)⟩)
 . intro σ₁ h
   have hs : ∃ e a b c, σ₁ = (L, e) :: (c5, a) :: (c6, b) :: (c8, c) :: (c3, .cell (some (.list (found.map stA)))) :: (c11, .cell (some (.dict (dI moves)))) :: τ := by
     rcases h with h | h
     . cases h; exact ⟨_, _, _, _, rfl⟩
     . cases h; exact ⟨_, _, _, _, rfl⟩
   obtain ⟨e, a, b, c, rfl⟩ := hs; refine exs_cons (ex_return ?_); walk_at "e"; exact hQ _ fun p hp => .tail _ (.tail _ (.tail _ (.tail _ (.tail _ (.tail _ hp)))))
end
end
section
inductive It (rs : List (List Int)) : List Int -> Nat -> Prop
 | zero : It rs [] 0
 | move {γ : List Int} {n : Nat} {X : Int} : It rs γ n -> nextSym rs n = [X] -> It rs (X :: γ) (n + 1)
 | step {γ : List Int} {n m : Nat} {X : Int} : It rs γ n -> nextSym rs n = [X] -> 256 <= X -> m ∈ addsFrom 0 rs X -> It rs γ m
structure IsSt (rs : List (List Int)) (γ : List Int) (s : List Nat) : Prop where
 sorted : s.Pairwise (· < ·)
 mem : ∀ n, n ∈ s ↔ It rs γ n
theorem reach_it {rs : List (List Int)} {γ : List Int} {w0 : List Nat} (h : ∀ n ∈ w0, It rs γ n) {n : Nat} (hr : Reach rs w0 n) : It rs γ n := by
 induction hr with
 | base hn => exact h _ hn
 | step _ h1 h2 h3 ih => exact .step ih h1 h2 h3
theorem it_reach {rs : List (List Int)} {γ : List Int} {n : Nat} (h : It rs γ n) : ∀ w0 : List Nat, (γ = [] -> 0 ∈ w0) -> (∀ X γ' m, γ = X :: γ' -> It rs γ' m -> nextSym rs m = [X] -> m + 1 ∈ w0) -> Reach rs w0 n := by
 induction h with
 | zero => intro w0 h0 _; exact .base (h0 rfl)
 | move h1 h2 ih => intro w0 _ hm; exact .base (hm _ _ _ rfl h1 h2)
 | step h1 h2 h3 h4 ih => intro w0 h0 hm; exact .step (ih w0 h0 hm) h2 h3 h4
theorem isSt_start {rs : List (List Int)} {s : List Nat} (h : Closed rs [0] s) : IsSt rs [] s where
 sorted := h.sorted
 mem n := by
   rw [h.mem]; refine ⟨reach_it fun n hn => ?_, fun hi => it_reach hi _ (fun _ => mem_cons_self) fun _ _ _ e => by cases e⟩; rw [List.mem_singleton.mp hn]; exact .zero
theorem isSt_step {rs : List (List Int)} {γ : List Int} {s s' : List Nat} {X : Int} (hs : IsSt rs γ s) (h : Closed rs (moved rs s X) s') : IsSt rs (X :: γ) s' where
 sorted := h.sorted
 mem n := by
   rw [h.mem]; refine ⟨reach_it fun n hn => ?_, fun hi => it_reach hi _ (fun e => by cases e) fun X' γ' m e h1 h2 => ?_⟩
   . obtain ⟨m, hm, hx, rfl⟩ := moved_mem.mp hn; exact .move ((hs.mem m).mp hm) hx
   . cases e; exact moved_mem.mpr ⟨m, (hs.mem m).mpr h1, h2, rfl⟩
theorem it_last {rs : List (List Int)} {γ : List Int} {n : Nat} (h : It rs γ n) : ∀ X γ', γ = X :: γ' -> ∃ m, It rs γ' m /\ nextSym rs m = [X] := by
 induction h with
 | zero => intro X γ' e; cases e
 | move h1 h2 ih => intro X γ' e; cases e; exact ⟨_, h1, h2⟩
 | step h1 h2 h3 h4 ih => exact ih
theorem moved_viable {rs : List (List Int)} {γ : List Int} {s : List Nat} {X : Int} (hs : IsSt rs γ s) : moved rs s X ≠ [] ↔ ∃ n, It rs (X :: γ) n := by
 constructor
 . intro h; obtain ⟨n, hn⟩ := List.exists_mem_of_ne_nil _ h; obtain ⟨m, hm, hx, rfl⟩ := moved_mem.mp hn; exact ⟨_, .move ((hs.mem m).mp hm) hx⟩
 . rintro ⟨n, hn⟩ e; obtain ⟨m, hm, hx⟩ := it_last hn _ _ rfl; have : m + 1 ∈ moved rs s X := moved_mem.mpr ⟨m, (hs.mem m).mpr hm, hx, rfl⟩; rw [e] at this; cases this
theorem stateR_word {rs : List (List Int)} {syms : List Int} {s : List Nat} (h : StateR rs syms s) : ∃ γ, IsSt rs γ s /\ (∀ x ∈ γ, x ∈ syms) /\ ∃ n, It rs γ n := by
 induction h with
 | start h => exact ⟨[], isSt_start h, by simp, _, .zero⟩
 | step h1 hX hm hc ih =>
   obtain ⟨γ, hi, hg, _⟩ := ih; exact ⟨_, isSt_step hi hc, fun x hx => by rcases List.mem_cons.mp hx with rfl | hx; exact hX; exact hg x hx, (moved_viable hi).mp hm⟩
theorem isSt_uniq {rs : List (List Int)} {γ : List Int} {s t : List Nat} (h1 : IsSt rs γ s) (h2 : IsSt rs γ t) : s = t :=
 closed_uniq (rs := rs) (w0 := s) ⟨h1.sorted, fun n => ⟨.base, fun h => by
   induction h with
   | base h => exact h
   | step _ a b c ih => exact (h1.mem _).mpr (.step ((h1.mem _).mp ih) a b c)⟩⟩ ⟨h2.sorted, fun n => by
     rw [h2.mem, <- h1.mem]
     exact ⟨.base, fun h => by
       induction h with
       | base h => exact h
       | step _ a b c ih => exact (h1.mem _).mpr (.step ((h1.mem _).mp ih) a b c)⟩⟩
theorem mach_walk {rs : List (List Int)} {syms : List Int} {w : Int} {found : List (List Nat)} {moves : List (Int × Int)} {shelf : List Row} (M : MachRes rs syms w found moves shelf) :
   ∀ (γ : List Int), (∀ x ∈ γ, x ∈ syms) -> (∃ n, It rs γ n) -> ∃ (j : Nat) (s : List Nat), walkTo moves γ.reverse = (j : Int) /\ found[j]? = some s /\ IsSt rs γ s
 | [], _, _ => by
   obtain ⟨s, h1, h2⟩ := M.start; exact ⟨0, s, rfl, h1, isSt_start h2⟩
 | X :: γ, hg, ⟨n, hn⟩ => by
   obtain ⟨m, hm, hx⟩ := it_last hn _ _ rfl; obtain ⟨i, s, h1, h2, h3⟩ := mach_walk M γ (fun x h => hg x (mem_cons_of_mem _ h)) ⟨m, hm⟩; obtain ⟨j, s', h4, h5, h6⟩ := (M.mv i s X h2 (hg X mem_cons_self)).2 ((moved_viable h3).mpr ⟨n, hn⟩); refine ⟨j, s', ?_, h5, isSt_step h3 h6⟩; rw [List.reverse_cons, walkTo_snoc, h1, h4]; rfl
theorem mem_adds {m : Nat} {X : Int} : ∀ (l : List (List Int)) (j : Nat), m ∈ addsFrom j l X ↔ ∃ i r, l[i]? = some r /\ r.headD 0 = X /\ m = 8 * (j + i)
 | [], j => iff_of_false not_mem_nil fun ⟨_, _, h, _⟩ => nomatch h
 | r :: l, j => by
   rw [addsFrom_c]; rw [mem_append, mem_adds l (j + 1)]; constructor
   . rintro (h | ⟨i, r', h1, h2, h3⟩)
     . split at h
       . exact ⟨0, r, rfl, by assumption, by rw [List.mem_singleton.mp h, add_zero]⟩
       . cases h
     . exact ⟨i + 1, r', h1, h2, by rw [h3, add_right_comm]; rfl⟩
   . rintro ⟨i, r', h1, h2, h3⟩
     cases i with
     | zero =>
       cases h1; left; rw [if_pos h2]; exact List.mem_singleton.mpr h3
     | succ i => exact .inr ⟨i, r', h1, h2, by rw [h3, add_right_comm]; rfl⟩
theorem next_at {rs : List (List Int)} {j k : Nat} {rule : List Int} {X : Int} (hj : rs[j]? = some rule) (hk : k < 8) : nextSym rs (8 * j + k) = [X] ↔ rule[k + 1]? = some X := by
 unfold nextSym; rw [Nat.mul_add_div (by decide), Nat.div_eq_of_lt hk, add_zero, Nat.mul_add_mod, Nat.mod_eq_of_lt hk, getD_eq_getElem?_getD, hj, Option.getD_some, add_comm]; constructor
 . intro h; rcases lt_or_ge (k + 1) rule.length with hl | hl
   . rw [drop_eq_getElem_cons hl, List.take_succ_cons, List.take_zero] at h; rw [getElem?_eq_getElem hl]; exact congrArg some (List.cons.inj h).1
   . rw [drop_of_length_le hl] at h; cases h
 . intro h; obtain ⟨hl, e⟩ := List.getElem?_eq_some_iff.mp h; rw [drop_eq_getElem_cons hl, List.take_succ_cons, List.take_zero, e]
theorem next_none {rs : List (List Int)} {n : Nat} {X : Int} (h : nextSym rs n = [X]) : ∃ rule, rs[n / 8]? = some rule := by
 unfold nextSym at h
 cases hr : rs[n / 8]? with
 | some r => exact ⟨r, rfl⟩
 | none => rw [getD_eq_getElem?_getD, hr] at h; simp at h
noncomputable abbrev onto (rule : List Int) (k : Nat) (γ : List Int) : List Int := ((rule.drop 1).take k).reverse ++ γ
theorem onto_succ {rule : List Int} {k : Nat} {γ : List Int} {X : Int} (h : rule[k + 1]? = some X) : onto rule (k + 1) γ = X :: onto rule k γ := by
 unfold onto; rw [List.take_add_one, getElem?_drop, add_comm 1 k, h]; simp
inductive ItDec (rs : List (List Int)) (γ : List Int) (n : Nat) : Prop
 | intro (j k : Nat) (rule γ0 : List Int) (e : n = 8 * j + k) (hj : rs[j]? = some rule) (hk : k < rule.length) (hg : γ = onto rule k γ0) (hi : It rs γ0 (8 * j))
theorem it_dec {rs : List (List Int)} (h0 : 0 < rs.length) (hrl : ∀ r ∈ rs, r.length <= 8 /\ r ≠ []) {γ : List Int} {n : Nat} (h : It rs γ n) :
   ItDec rs γ n := by
 induction h with
 | zero =>
   refine ⟨0, 0, rs[0], [], rfl, getElem?_eq_getElem h0, ?_, rfl, .zero⟩; exact List.length_pos_iff.mpr (hrl _ (getElem_mem h0)).2
 | @move γ n X h1 h2 ih =>
   obtain ⟨j, k, rule, γ0, rfl, hj, hk, e, hi⟩ := ih; have h8 := (hrl _ (mem_of_getElem? hj)).1; rw [next_at hj (lt_of_lt_of_le hk h8)] at h2; obtain ⟨hl, _⟩ := List.getElem?_eq_some_iff.mp h2; exact ⟨j, k + 1, rule, γ0, rfl, hj, hl, by rw [onto_succ h2, e], hi⟩
 | @step γ n m X h1 h2 h3 h4 ih =>
   obtain ⟨i, r, hi, hX, rfl⟩ := (mem_adds rs 0).mp h4; refine ⟨i, 0, r, γ, congrArg _ (zero_add i), hi, List.length_pos_iff.mpr (hrl _ (mem_of_getElem? hi)).2, rfl, ?_⟩; have := It.step h1 h2 h3 h4; rwa [zero_add] at this
theorem it_onto {rs : List (List Int)} (hrl : ∀ r ∈ rs, r.length <= 8 /\ r ≠ []) {j : Nat} {rule γ0 : List Int} (hj : rs[j]? = some rule) (h : It rs γ0 (8 * j)) : ∀ k, k < rule.length -> It rs (onto rule k γ0) (8 * j + k)
 | 0, _ => h
 | k + 1, hk => by
   have h8 := (hrl _ (mem_of_getElem? hj)).1; have ih := it_onto hrl hj h k (lt_of_succ_lt hk); have hX : rule[k + 1]? = some rule[k + 1] := getElem?_eq_getElem hk; rw [onto_succ hX]; exact .move ih ((next_at hj (lt_of_lt_of_le (lt_of_succ_lt hk) h8)).mpr hX)
theorem it_open {rs : List (List Int)} (hrl : ∀ r ∈ rs, r.length <= 8 /\ r ≠ []) {j k i : Nat} {rule r γ0 : List Int} (hj : rs[j]? = some rule) (h : It rs γ0 (8 * j)) {X : Int} (hX : rule[k + 1]? = some X) (h256 : 256 <= X) (hi : rs[i]? = some r) (hr : r.headD 0 = X) : It rs (onto rule k γ0) (8 * i) := by
 have h8 := (hrl _ (mem_of_getElem? hj)).1; obtain ⟨hl, _⟩ := List.getElem?_eq_some_iff.mp hX; have hk := lt_of_succ_lt hl; exact .step (it_onto hrl hj h k hk) ((next_at hj (lt_of_lt_of_le hk h8)).mpr hX) h256 ((mem_adds rs 0).mpr ⟨i, r, hi, hr, congrArg _ (zero_add i).symm⟩)
theorem it_same {rs : List (List Int)} (h0 : ∃ r0, rs[0]? = some r0 /\ ∀ i r, rs[i]? = some r -> r.headD 0 = r0.headD 0 -> i = 0) (hrl : ∀ r ∈ rs, r.length <= 8 /\ r ≠ []) {γ : List Int} {n : Nat} (h : It rs γ n) : ∀ {i j : Nat} {r r' : List Int}, n = 8 * j -> rs[j]? = some r -> rs[i]? = some r' -> r'.headD 0 = r.headD 0 -> It rs γ (8 * i) := by
 cases h with
 | zero =>
   intro i j r r' e hj hi hh; obtain rfl : j = 0 := (Nat.mul_eq_zero.mp e.symm).resolve_left (by decide); obtain ⟨r0, h1, h2⟩ := h0; rw [h1] at hj; cases hj; rw [h2 i r' hi hh]; exact .zero
 | @move γ n X h1 h2 =>
   intro i j r r' e hj hi hh; exfalso; obtain ⟨rule, hr⟩ := next_none h2; have h8 := (hrl _ (mem_of_getElem? hr)).1; have h3 : nextSym rs (8 * (n / 8) + n % 8) = [X] := by rw [div_add_mod]; exact h2
   rw [next_at hr (Nat.mod_lt _ (by decide))] at h3; obtain ⟨hl, _⟩ := List.getElem?_eq_some_iff.mp h3
   have e := congrArg (· % 8) (show 8 * (n / 8) + (n % 8 + 1) = 8 * j by rw [<- add_assoc, div_add_mod]; exact e)
   simp only [Nat.mul_add_mod, Nat.mul_mod_right, Nat.mod_eq_of_lt (lt_of_lt_of_le hl h8)] at e; cases e
 | @step γ n m X h1 h2 h3 h4 =>
   intro i j r r' e hj hi hh; obtain ⟨i', r'', hi', hX, e'⟩ := (mem_adds rs 0).mp h4; rw [zero_add] at e'; obtain rfl : i' = j := Nat.eq_of_mul_eq_mul_left (by decide) (e'.symm.trans e); rw [hj] at hi'; cases hi'; exact .step h1 h2 h3 ((mem_adds rs 0).mpr ⟨i, r', hi, hh.trans hX, congrArg _ (zero_add i).symm⟩)
end
section
theorem nodup_flat {α β : Type} {f : α -> List β} {l : List α} (h1 : ∀ x ∈ l, (f x).Nodup) (h2 : l.Pairwise fun a b => ∀ x ∈ f a, x ∉ f b) : (l.flatMap f).Nodup := by
 unfold List.Nodup; rw [List.pairwise_flatMap]; exact ⟨h1, List.Pairwise.imp (fun {a b} (h : ∀ x ∈ f a, x ∉ f b) x hx y hy (e : x = y) => h x hx (e ▸ hy)) h2⟩
noncomputable def enc : List Int -> Int
 | [] => 0
 | X :: γ => 512 * enc γ + X
noncomputable def SymOk (γ : List Int) : Prop := ∀ x ∈ γ, 1 <= x /\ x < 512
theorem symOk_cons {X : Int} {γ : List Int} : SymOk (X :: γ) ↔ (1 <= X /\ X < 512) /\ SymOk γ := by
 unfold SymOk; rw [forall_mem_cons]
theorem enc_nn : ∀ {γ : List Int}, SymOk γ -> 0 <= enc γ
 | [], _ => Int.le_refl _
 | X :: γ, h => by
   rw [symOk_cons] at h; have := enc_nn h.2; exact Int.add_nonneg (Int.mul_nonneg (by decide) this) (Int.le_trans (by decide) h.1.1)
theorem enc_pos {X : Int} {γ : List Int} (h : SymOk (X :: γ)) : 0 < enc (X :: γ) := by
 rw [symOk_cons] at h; exact Int.lt_of_lt_of_le (show (0 : Int) < 1 by decide) (Int.le_trans h.1.1 (Int.le_add_of_nonneg_left (Int.mul_nonneg (by decide) (enc_nn h.2))))
theorem enc_inj : ∀ {γ δ : List Int}, SymOk γ -> SymOk δ -> enc γ = enc δ -> γ = δ
 | [], [], _, _, _ => rfl
 | [], Y :: δ, _, hd, e => by
   exact absurd e (Int.ne_of_lt (enc_pos hd))
 | X :: γ, [], hg, _, e => by
   exact absurd e (Int.ne_of_gt (enc_pos hg))
 | X :: γ, Y :: δ, hg, hd, e => by
   rw [symOk_cons] at hg hd; have h1 : 512 * enc γ + X = 512 * enc δ + Y := e; have h2 := rad ⟨Int.le_trans (by decide) hg.1.1, hg.1.2⟩ ⟨Int.le_trans (by decide) hd.1.1, hd.1.2⟩ h1; rw [enc_inj hg.2 hd.2 h2.1, h2.2]
theorem enc_lt : ∀ {γ : List Int}, SymOk γ -> enc γ < 512 ^ γ.length
 | [], _ => by decide
 | X :: γ, h => by
   rw [symOk_cons] at h; have := enc_lt h.2; have := Int.mul_le_mul_of_nonneg_left (Int.add_one_le_of_lt this) (show (0 : Int) <= 512 by decide); rw [Int.mul_add, Int.mul_one] at this; rw [length_cons, Int.pow_succ, Int.mul_comm]; exact Int.lt_of_lt_of_le (Int.add_lt_add_left h.1.2 _) this
theorem enc_ge : ∀ {γ : List Int}, SymOk γ -> γ ≠ [] -> 512 ^ (γ.length - 1) <= enc γ
 | [], _, h => absurd rfl h
 | [X], h, _ => by
   rw [symOk_cons] at h; have : enc [X] = 512 * 0 + X := rfl; rw [this]; simpa using h.1.1
 | X :: Y :: γ, h, _ => by
   rw [symOk_cons] at h; have := enc_ge h.2 (by simp); have e : enc (X :: Y :: γ) = 512 * enc (Y :: γ) + X := rfl; rw [e, show (X :: Y :: γ).length - 1 = ((Y :: γ).length - 1) + 1 by simp, Int.pow_succ, Int.mul_comm]; exact Int.le_trans (Int.mul_le_mul_of_nonneg_left this (by decide)) (Int.le_add_of_nonneg_right (Int.le_trans (by decide) h.1.1))
theorem pow_mono {a b : Nat} (h : a <= b) : (512 : Int) ^ a <= 512 ^ b := by
 have := Nat.pow_le_pow_right (show 0 < 512 by decide) h
 exact_mod_cast this
theorem inLay_iff {γ : List Int} (h : SymOk γ) (k : Nat) : inLay k (enc γ) = true ↔ γ.length = k := by
 unfold inLay; rw [decide_eq_true_iff]; have h1 := enc_lt h; have h0 := enc_nn h; have hdiv : ∀ m : Nat, (512 : Int) ^ (m + 1) / 512 = 512 ^ m := fun m => by rw [Int.pow_succ]; exact Int.mul_ediv_cancel _ (by decide)
 constructor
 . rintro ⟨h2, h3⟩; by_cases hg : γ = []
   . subst hg
     cases k with
     | zero => rfl
     | succ k =>
       rw [hdiv] at h2; have : (1 : Int) <= 512 ^ k := pow_mono (zero_le k); exact absurd (Int.le_trans this h2) (by decide)
   . have h4 := enc_ge h hg; have hl := List.length_pos_iff.mpr hg; rcases Nat.lt_trichotomy γ.length k with hlt | he | hgt
     . exfalso; obtain ⟨m, rfl⟩ : ∃ m, k = m + 1 := ⟨k - 1, (sub_add_cancel (lt_of_le_of_lt (zero_le _) hlt)).symm⟩; rw [hdiv] at h2; exact Int.lt_irrefl _ (Int.lt_of_lt_of_le h1 (Int.le_trans (pow_mono (le_of_lt_succ hlt)) h2))
     . exact he
     . exfalso; exact Int.lt_irrefl _ (Int.lt_of_lt_of_le h3 (Int.le_trans (pow_mono (le_sub_one_of_lt hgt)) h4))
 . rintro rfl; refine ⟨?_, h1⟩; by_cases hg : γ = []
   . subst hg; decide
   . have h4 := enc_ge h hg; have hl := List.length_pos_iff.mpr hg; obtain ⟨m, hm⟩ : ∃ m, γ.length = m + 1 := ⟨γ.length - 1, (sub_add_cancel hl).symm⟩; rw [hm, hdiv]; rwa [hm, Nat.add_sub_cancel] at h4
theorem inLay_lt {k : Nat} (hk : k <= 3) {w : Int} (h : inLay k w = true) : w < 512 ^ 3 := by
 unfold inLay at h; exact Int.lt_of_lt_of_le (decide_eq_true_iff.mp h).2 (pow_mono hk)
theorem rowAt_onto (rule γ : List Int) : ∀ k, k < rule.length -> rowAt rule (enc γ) k = enc (onto rule k γ)
 | 0, _ => rfl
 | k + 1, h => by
   have hX : rule[k + 1]? = some rule[k + 1] := getElem?_eq_getElem h; rw [onto_succ hX]; show 512 * rowAt rule (enc γ) k + rule.getD (k + 1) 0 = 512 * enc (onto rule k γ) + rule[k + 1]; rw [rowAt_onto rule γ k (lt_of_succ_lt h), getD_eq_getElem?_getD, hX]; rfl
theorem rowAt_inj (rule : List Int) {x y : Int} : ∀ k, rowAt rule x k = rowAt rule y k -> x = y
 | 0, h => h
 | k + 1, h => by
   have : 512 * rowAt rule x k + rule.getD (k + 1) 0 = 512 * rowAt rule y k + rule.getD (k + 1) 0 := h
   exact rowAt_inj rule k (Int.eq_of_mul_eq_mul_left (show (512 : Int) ≠ 0 by decide) (by have := congrArg (· - rule.getD (k + 1) 0) this; simpa only [Int.add_sub_cancel] using this))
set_option tactic.hygienic true in
theorem mem_susOf {rs : List (List Int)} {p q : Int × Int} : q ∈ susOf rs p ↔ ∃ rule ∈ rs, rule.headD 0 = p.1 /\ ∃ k, k < rule.length /\ rowAt rule p.2 k < 512 ^ 3 /\ k + 1 < rule.length /\ 255 < rule.getD (k + 1) 0 /\ q = (rule.getD (k + 1) 0, rowAt rule p.2 k) := by
 unfold susOf; rw [mem_flatMap]; constructor
 . rintro ⟨rule, hr, hq⟩; unfold susRule at hq; split at hq
   . obtain ⟨k, hk, hq⟩ := List.mem_flatMap.mp hq; unfold suR at hq; split at hq
     . rename_i h1 _ h2
       exact ⟨rule, hr, h1, k, List.mem_range.mp hk, h2.1, h2.2.1, h2.2.2, List.mem_singleton.mp hq⟩
     . cases hq
   . cases hq
 . rintro ⟨rule, hr, h1, k, hk, h2, h3, h4, rfl⟩; refine ⟨rule, hr, ?_⟩; unfold susRule; rw [if_pos h1]; refine List.mem_flatMap.mpr ⟨k, List.mem_range.mpr hk, ?_⟩; unfold suR; rw [if_pos ⟨h2, h3, h4⟩]; exact List.mem_singleton.mpr rfl
theorem mem_evs {p e : Int × Int} : ∀ {rs : List (List Int)} {i : Nat}, e ∈ evsFrom i rs p ↔ ∃ j rule, rs[j]? = some rule /\ rule.headD 0 = p.1 /\ ∃ k, k < rule.length /\ rowAt rule p.2 k < 512 ^ 3 /\ e = (rowAt rule p.2 k, 8 * ((i + j : Nat) : Int) + k)
 | [], i => iff_of_false not_mem_nil fun ⟨_, _, h, _⟩ => nomatch h
 | r :: rs, i => by
   rw [evsFrom_c]; rw [mem_append, mem_evs (rs := rs)]; constructor
   . rintro (h | ⟨j, rule, h1, h2, h3⟩)
     . unfold evsRule at h; split at h
       . obtain ⟨k, hk, h⟩ := List.mem_flatMap.mp h; unfold evR at h; split at h
         . exact ⟨0, r, rfl, by assumption, k, List.mem_range.mp hk, by assumption, List.mem_singleton.mp h⟩
         . cases h
       . cases h
     . exact ⟨j + 1, rule, h1, h2, by rw [add_right_comm] at h3; exact h3⟩
   . rintro ⟨j, rule, h1, h2, k, h3, h4, h5⟩
     cases j with
     | zero =>
       cases h1; left; unfold evsRule; rw [if_pos h2]; refine List.mem_flatMap.mpr ⟨k, List.mem_range.mpr h3, ?_⟩; unfold evR; rw [if_pos h4]; exact List.mem_singleton.mpr h5
     | succ j => exact .inr ⟨j, rule, h1, h2, k, h3, h4, by rw [h5, add_right_comm]; rfl⟩
section
variable {rs : List (List Int)} {A E : List (Int × Int)}
structure RulesOk (rs : List (List Int)) : Prop where
 first : ∃ r0 : List Int, rs[0]? = some r0 /\ r0.headD 0 = 256 /\ ∀ (i : Nat) (r : List Int), rs[i]? = some r -> r.headD 0 = 256 -> i = 0
 len : ∀ r ∈ rs, r.length <= 8 /\ r ≠ []
 sym : ∀ r ∈ rs, ∀ x ∈ r.drop 1, 1 <= x /\ x < 512 /\ x ≠ 256
theorem RulesOk.pos (R : RulesOk rs) : 0 < rs.length := by
 obtain ⟨r0, h, _⟩ := R.first
 exact (List.getElem?_eq_some_iff.mp h).1
theorem RulesOk.zero (R : RulesOk rs) : ∃ r0, rs[0]? = some r0 /\ ∀ i r, rs[i]? = some r -> r.headD 0 = r0.headD 0 -> i = 0 := by
 obtain ⟨r0, h, h1, h2⟩ := R.first
 exact ⟨r0, h, fun i r a b => h2 i r a (b.trans h1)⟩
theorem onto_sym (R : RulesOk rs) {rule γ : List Int} (hr : rule ∈ rs) (hg : SymOk γ) (k : Nat) : SymOk (onto rule k γ) := by
 intro x hx; rcases List.mem_append.mp hx with h | h
 . have := R.sym rule hr x (mem_of_mem_take (List.mem_reverse.mp h)); exact ⟨this.1, this.2.1⟩
 . exact hg x h
set_option tactic.hygienic true in
theorem it_sym (R : RulesOk rs) {γ : List Int} {n : Nat} (h : It rs γ n) : SymOk γ := by
 induction h with
 | zero => intro x hx; cases hx
 | move h1 h2 ih =>
   rename_i γ n X
   rw [symOk_cons]; refine ⟨?_, ih⟩; obtain ⟨rule, hr⟩ := next_none h2; have hm := mem_of_getElem? hr
   have : X ∈ rule.drop 1 := by
     unfold nextSym at h2; rw [getD_eq_getElem?_getD, hr, Option.getD_some] at h2; have h3 : X ∈ (rule.drop (1 + n % 8)).take 1 := by rw [h2]; exact List.mem_singleton.mpr rfl
     have h4 := mem_of_mem_take h3; rw [<- List.drop_drop] at h4; exact mem_of_mem_drop h4
   have := R.sym rule hm X this; exact ⟨this.1, this.2.1⟩
 | step _ _ _ _ ih => exact ih
theorem ahead_word (R : RulesOk rs) {p : Int × Int} (h : AheadI rs p) : ∃ γ, p.2 = enc γ /\ SymOk γ /\ ∀ j rule, rs[j]? = some rule -> rule.headD 0 = p.1 -> It rs γ (8 * j) := by
 induction h with
 | base =>
   obtain ⟨r0, h1, h2, h3⟩ := R.first
   refine ⟨[], rfl, (by intro x hx; cases hx), fun j rule hj hh => ?_⟩; rw [h3 j rule hj hh]; exact .zero
 | @step p q h1 h2 ih =>
   obtain ⟨γ, hp, hg, hI⟩ := ih; obtain ⟨rule, hr, hh, k, hk, hlt, hk1, h255, rfl⟩ := mem_susOf.mp h2; obtain ⟨j, hj⟩ := List.getElem?_of_mem hr; refine ⟨onto rule k γ, by rw [hp]; exact rowAt_onto rule γ k hk, onto_sym R hr hg k, fun i r hi hri => ?_⟩
   have hX : rule[k + 1]? = some (rule.getD (k + 1) 0) := by
     rw [getD_eq_getElem?_getD, getElem?_eq_getElem hk1]; rfl
   exact it_open R.len hj (hI j rule hj hh) hX (Int.add_one_le_of_lt h255) hi hri
theorem ahead_dec (R : RulesOk rs) (F : FitRes rs A E) {γ : List Int} {n : Nat} (h : It rs γ n) : γ.length <= 3 ->
   ∃ j k rule γ0, n = 8 * j + k /\ rs[j]? = some rule /\ k < rule.length /\ γ = onto rule k γ0 /\ (rule.headD 0, enc γ0) ∈ A := by
 induction h with
 | zero =>
   intro _
   obtain ⟨r0, h1, h2, h3⟩ := R.first
   refine ⟨0, 0, r0, [], rfl, h1, List.length_pos_iff.mpr (R.len _ (mem_of_getElem? h1)).2, rfl, ?_⟩; rw [h2]; exact F.base
 | @move γ n X h1 h2 ih =>
   intro hl; obtain ⟨j, k, rule, γ0, rfl, hj, hk, e, hi⟩ := ih (le_of_succ_le hl); have h8 := (R.len _ (mem_of_getElem? hj)).1; rw [next_at hj (lt_of_lt_of_le hk h8)] at h2; obtain ⟨hl, _⟩ := List.getElem?_eq_some_iff.mp h2; exact ⟨j, k + 1, rule, γ0, rfl, hj, hl, by rw [onto_succ h2, e], hi⟩
 | @step γ n m X h1 h2 h3 h4 ih =>
   intro hl; obtain ⟨j, k, rule, γ0, rfl, hj, hk, e, hi⟩ := ih hl; have h8 := (R.len _ (mem_of_getElem? hj)).1; rw [next_at hj (lt_of_lt_of_le hk h8)] at h2; obtain ⟨i, r, hir, hX, rfl⟩ := (mem_adds rs 0).mp h4; refine ⟨i, 0, r, γ, by lia, hir, List.length_pos_iff.mpr (R.len _ (mem_of_getElem? hir)).2, rfl, ?_⟩; obtain ⟨hl1, hl2⟩ := List.getElem?_eq_some_iff.mp h2; have hgd : rule.getD (k + 1) 0 = X := by rw [getD_eq_getElem?_getD, h2]; rfl
   have hrow := rowAt_onto rule γ0 k hk; rw [<- e] at hrow; have hsy := it_sym R h1; have hlt : enc γ < 512 ^ 3 := Int.lt_of_lt_of_le (enc_lt hsy) (pow_mono hl); refine F.clo _ hi _ (mem_susOf.mpr ⟨rule, mem_of_getElem? hj, rfl, k, hk, ?_, hl1, ?_, ?_⟩)
   . dsimp only; rw [hrow]; exact hlt
   . rw [hgd]; exact Int.lt_of_lt_of_le (by decide) h3
   . dsimp only; rw [hgd, hrow, hX]
theorem fit_iff (R : RulesOk rs) (F : FitRes rs A E) {γ : List Int} (hl : γ.length <= 3) (hg : SymOk γ) (n : Nat) : (enc γ, (n : Int)) ∈ E ↔ It rs γ n := by
 rw [F.evs, mem_flatMap]; constructor
 . rintro ⟨p, hp, he⟩; obtain ⟨j, rule, hj, hh, k, hk, hlt, e⟩ := mem_evs.mp he; obtain ⟨γ0, h1, h2, h3⟩ := ahead_word R (F.ok p hp); rw [h1, rowAt_onto rule γ0 k hk, Prod.mk.injEq] at e; have hγ := enc_inj hg (onto_sym R (mem_of_getElem? hj) h2 k) e.1; have hn : n = 8 * j + k := Int.ofNat.inj (e.2.trans (by rw [zero_add]; rfl)); rw [hγ, hn]; exact it_onto R.len hj (h3 j rule hj hh) k hk
 . intro h; obtain ⟨j, k, rule, γ0, rfl, hj, hk, e, hA⟩ := ahead_dec R F h hl; refine ⟨_, hA, mem_evs.mpr ⟨j, rule, hj, rfl, k, hk, ?_, ?_⟩⟩
   . dsimp only; rw [rowAt_onto rule γ0 k hk, <- e]; exact Int.lt_of_lt_of_le (enc_lt hg) (pow_mono hl)
   . dsimp only; rw [rowAt_onto rule γ0 k hk, <- e]; simp
theorem fit_form (R : RulesOk rs) (F : FitRes rs A E) {e : Int × Int} (he : e ∈ E) : ∃ (γ : List Int) (n : Nat), e = (enc γ, (n : Int)) /\ SymOk γ /\ It rs γ n := by
 rw [F.evs, mem_flatMap] at he; obtain ⟨p, hp, he⟩ := he; obtain ⟨j, rule, hj, hh, k, hk, hlt, e⟩ := mem_evs.mp he; obtain ⟨γ0, h1, h2, h3⟩ := ahead_word R (F.ok p hp); refine ⟨onto rule k γ0, 8 * j + k, ?_, onto_sym R (mem_of_getElem? hj) h2 k, it_onto R.len hj (h3 j rule hj hh) k hk⟩; rw [e, h1, rowAt_onto rule γ0 k hk]; simp
theorem evs_nd (R : RulesOk rs) (p : Int × Int) : ∀ (l : List (List Int)) (i : Nat), (∀ r ∈ l, r.length <= 8) -> (evsFrom i l p).Nodup
 | [], _, _ => nodup_nil
 | r :: l, i, h => by
   rw [evsFrom_c]; rw [nodup_append]; have h8 := h r mem_cons_self; refine ⟨?_, evs_nd R p l (i + 1) fun x hx => h x (mem_cons_of_mem _ hx), ?_⟩
   . unfold evsRule; split
     . refine nodup_flat (fun k _ => by unfold evR; split <;> simp) ?_
       refine List.Pairwise.imp ?_ (List.nodup_range (n := r.length)); intro a b hab x hx hy; unfold evR at hx hy; split at hx <;> split at hy
       . rw [mem_singleton] at hx hy; rw [hx, Prod.mk.injEq] at hy; exact hab (Int.ofNat.inj (Int.add_left_cancel hy.2))
       all_goals (first | exact absurd hx not_mem_nil | exact absurd hy not_mem_nil)
     . exact nodup_nil
   . intro x hx y hy e; subst e; have hx' : x ∈ evsFrom i [r] p := mem_append_left _ hx; obtain ⟨j, rule, hj, _, k, hk, _, e1⟩ := mem_evs.mp hx'; obtain ⟨j', rule', hj', _, k', hk', _, e2⟩ := mem_evs.mp hy
     have hj0 : j = 0 := by
       have := (List.getElem?_eq_some_iff.mp hj).1; simp at this; exact this
     subst hj0; cases hj; have h8' := h rule' (mem_cons_of_mem _ (mem_of_getElem? hj')); rw [e1, Prod.mk.injEq] at e2; have := (rad8 (lt_of_lt_of_le hk h8) (lt_of_lt_of_le hk' h8') e2.2).1; exact absurd this (ne_of_lt (by rw [add_assoc]; exact Nat.add_lt_add_left (lt_of_lt_of_le one_pos (le_add_right 1 j')) i))
theorem fit_nd (R : RulesOk rs) (F : FitRes rs A E) : E.Nodup := by
 rw [F.evs]; refine nodup_flat (fun p _ => evs_nd R p rs 0 fun r hr => (R.len r hr).1) ?_; refine List.Pairwise.imp ?_ F.nd; intro p q hpq x hx hy; obtain ⟨j, rule, hj, hh, k, hk, _, e1⟩ := mem_evs.mp hx; obtain ⟨j', rule', hj', hh', k', hk', _, e2⟩ := mem_evs.mp hy; have h8 := (R.len _ (mem_of_getElem? hj)).1; have h8' := (R.len _ (mem_of_getElem? hj')).1; rw [e1, Prod.mk.injEq] at e2; have h3 := rad8 (lt_of_lt_of_le hk h8) (lt_of_lt_of_le hk' h8') e2.2; rw [zero_add, zero_add] at h3; obtain ⟨rfl, rfl⟩ := h3; rw [hj] at hj'; cases hj'; exact hpq (Prod.ext (hh.symm.trans hh') (rowAt_inj rule k e2.1))
end
end
section
noncomputable def put1 (l : List (Int × Int)) : List (Int × Int) := l.foldl (fun l p => gPut l p.1 p.2) []
theorem iGet_fold_put : ∀ (l out : List (Int × Int)) (k : Int), (l.map (·.1)).Nodup -> gGet (l.foldl (fun l p => gPut l p.1 p.2) out) k = (match gGet l k with | some v => some v | none => gGet out k)
 | [], out, k, _ => rfl
 | p :: l, out, k, nd => by
   rw [map_cons, nodup_cons] at nd; rw [foldl_cons, iGet_fold_put l _ k nd.2, gGet_put]; obtain ⟨j, v⟩ := p
   show _ = match (if j = k then some v else gGet l k) with | some v => some v | none => gGet out k
   by_cases h : j = k
   . subst h; rw [gGet_none.mpr nd.1, if_pos rfl, if_pos rfl]
   . rw [if_neg h, if_neg h]
theorem fold_put_nd : ∀ (l out : List (Int × Int)), (out.map (·.1)).Nodup -> ((l.foldl (fun l p => gPut l p.1 p.2) out).map (·.1)).Nodup
 | [], _, h => h
 | p :: l, out, h => by
   refine fold_put_nd l _ ?_; have := iPutAll_nd [p] out h; exact this
theorem iPut_nd {l : List (Int × Int)} {k v : Int} (h : (l.map (·.1)).Nodup) : ((gPut l k v).map (·.1)).Nodup := iPutAll_nd [(k, v)] l h
theorem addC_get {f : List (Int × Int)} {k t st : Int} (nd : (f.map (·.1)).Nodup) : gGet (addC f [(k, t)]) st = (if k = st then some ((gGet f st).getD 0 + t) else gGet f st) /\ ((addC f [(k, t)]).map (·.1)).Nodup := by
 have h1 : addC f [(k, t)] = iAdd (f.foldl (fun l p => gPut l p.1 p.2) []) (k, t) := rfl; have h2 := fold_put_nd f [] nodup_nil
 have h3 : ∀ x, gGet (f.foldl (fun l p => gPut l p.1 p.2) []) x = gGet f x := fun x => by
   rw [iGet_fold_put f [] x nd]; cases gGet f x <;> rfl
 rw [h1]; generalize f.foldl (fun l p => gPut l p.1 p.2) [] = g at h2 h3; unfold iAdd; dsimp only; rw [h3 k]
 cases hk : gGet f k with
 | none =>
   refine ⟨?_, iPut_nd h2⟩; dsimp only; rw [gGet_put, h3]; by_cases h : k = st
   . subst h; rw [if_pos rfl, if_pos rfl, hk]; simp
   . rw [if_neg h, if_neg h]
 | some v =>
   refine ⟨?_, iPut_nd h2⟩; dsimp only; rw [gGet_put, h3]; by_cases h : k = st
   . subst h; rw [if_pos rfl, if_pos rfl, hk]; rfl
   . rw [if_neg h, if_neg h]
noncomputable def cntM (c : Int -> Nat) (st : Int) (moves : List (Int × Int)) : Nat := (moves.map fun m => if m.2 = st then c (m.1 / 512) else 0).sum
noncomputable def IsCnt (f : List (Int × Int)) (g : Int -> Nat) : Prop := (f.map (·.1)).Nodup /\ ∀ st, gGet f st = if g st = 0 then none else some ((g st : Nat) : Int)
theorem furt_cnt {table : List (Int × Int)} {c : Int -> Nat} (ht : IsCnt table c) : ∀ (moves f : List (Int × Int)) (g : Int -> Nat), IsCnt f g -> IsCnt (moves.foldl (furtS table) f) (fun st => g st + cntM c st moves)
 | [], f, g, h => by
   have : (fun st => g st + cntM c st []) = g := by funext st; show g st + 0 = g st; lia
   rw [this]; exact h
 | m :: moves, f, g, h => by
   rw [foldl_cons]
   have h1 : IsCnt (furtS table f m) (fun st => g st + if m.2 = st then c (m.1 / 512) else 0) := by
     unfold furtS; rw [ht.2]; by_cases hc : c (m.1 / 512) = 0
     . rw [if_pos hc]; dsimp only; refine ⟨h.1, fun st => ?_⟩; rw [hc]; simp only [ite_self, add_zero]; exact h.2 st
     . rw [if_neg hc]; dsimp only; refine ⟨(addC_get h.1 (st := 0)).2, fun st => ?_⟩; rw [(addC_get h.1).1, h.2 st]; dsimp only; by_cases hs : m.2 = st
       . simp only [hs, if_true]; rw [if_neg (show ¬ g st + c (m.1 / 512) = 0 by lia)]; by_cases hg : g st = 0
         . rw [if_pos hg, hg]; simp
         . rw [if_neg hg]; simp
       . simp only [hs, if_false, add_zero]
   have h2 := furt_cnt ht moves _ _ h1
   have : (fun st => g st + cntM c st (m :: moves)) = fun st => (g st + if m.2 = st then c (m.1 / 512) else 0) + cntM c st moves := by
     funext st
     unfold cntM; rw [map_cons, sum_cons]; lia
   rw [this]; exact h2
theorem cntM_cons (q : Int) (l : List Int) (st : Int) : ∀ moves : List (Int × Int), cntM (fun i => (q :: l).count i) st moves = moves.countP (fun m => decide (m.2 = st /\ m.1 / 512 = q)) + cntM (fun i => l.count i) st moves
 | [] => rfl
 | m :: moves => by
   have ih := cntM_cons q l st moves; unfold cntM at ih ⊢; rw [map_cons, sum_cons, ih, map_cons, sum_cons, List.countP_cons]; dsimp only; rw [List.count_cons]; by_cases h1 : m.2 = st
   . by_cases h2 : m.1 / 512 = q
     . simp [h1, h2]; lia
     . have : ¬ q = m.1 / 512 := fun e => h2 e.symm; simp [h1, h2, this]; lia
   . simp [h1]
theorem cntM_nil (st : Int) : ∀ moves : List (Int × Int), cntM (fun i => ([] : List Int).count i) st moves = 0
 | [] => rfl
 | m :: moves => by
   have ih := cntM_nil st moves; unfold cntM at ih ⊢; rw [map_cons, sum_cons, ih]; simp
theorem next_count (moves : List (Int × Int)) (a i st : Int) : ∀ syms : List Int, (((syms.flatMap fun X => match gGet moves (512 * i + X) with | some t => [(512 * a + X, t)] | none => []) : List (Int × Int)).map (·.2)).count st = syms.countP fun X => decide (gGet moves (512 * i + X) = some st)
 | [] => rfl
 | X :: syms => by
   rw [flatMap_cons, map_append, List.count_append, next_count moves a i st syms, List.countP_cons]
   cases h : gGet moves (512 * i + X) with
   | none => simp
   | some t =>
     by_cases ht : t = st
     . subst ht; simp; lia
     . simp [ht]
theorem moves_count {moves : List (Int × Int)} {syms : List Int} (mnd : (moves.map (·.1)).Nodup) (snd : syms.Nodup) (hs : ∀ x ∈ syms, 1 <= x /\ x < 512) {i st : Int} (hk : ∀ k ∈ moves.map (·.1), ∃ (j : Int) (X : Int), X ∈ syms /\ k = 512 * j + X) :
   moves.countP (fun m => decide (m.2 = st /\ m.1 / 512 = i)) = syms.countP fun X => decide (gGet moves (512 * i + X) = some st) := by
 rw [List.countP_eq_length_filter, List.countP_eq_length_filter]
 have hp : ((moves.filter fun m => decide (m.2 = st /\ m.1 / 512 = i)).map (·.1)).Perm ((syms.filter fun X => decide (gGet moves (512 * i + X) = some st)).map fun X => 512 * i + X) := by
   refine (List.perm_ext_iff_of_nodup ?_ ?_).mpr fun k => ?_
   . exact List.Nodup.sublist (List.Sublist.map _ List.filter_sublist) mnd
   . rw [List.Nodup, pairwise_map]; exact List.Pairwise.imp (fun h e => h (by lia)) (List.Pairwise.filter _ snd)
   . simp only [mem_map, mem_filter, decide_eq_true_eq]; constructor
     . rintro ⟨m, ⟨hm, h1, h2⟩, rfl⟩; obtain ⟨j, X, hX, e⟩ := hk m.1 (mem_map_of_mem hm); have hx := hs X hX; refine ⟨X, ⟨hX, ?_⟩, by lia⟩; rw [show 512 * i + X = m.1 by lia, gGet_mem mnd hm, h1]
     . rintro ⟨X, ⟨hX, h1⟩, rfl⟩; have hx := hs X hX
       have hin : ∀ l : List (Int × Int), gGet l (512 * i + X) = some st -> (512 * i + X, st) ∈ l := by
         intro l
         induction l with
         | nil => intro h; cases h
         | cons p l ih =>
           obtain ⟨a, b⟩ := p; intro h; rw [gGet_c] at h; split at h
           . next e => cases h; exact e ▸ mem_cons_self
           . exact mem_cons_of_mem _ (ih h)
       exact ⟨(512 * i + X, st), ⟨hin moves h1, rfl, by lia⟩, rfl⟩
 have := hp.length_eq; rwa [length_map, length_map] at this
theorem layNext_count {moves : List (Int × Int)} {syms : List Int} (mnd : (moves.map (·.1)).Nodup) (snd : syms.Nodup) (hs : ∀ x ∈ syms, 1 <= x /\ x < 512) (hk : ∀ k ∈ moves.map (·.1), ∃ (j : Int) (X : Int), X ∈ syms /\ k = 512 * j + X) (st : Int) :
   ∀ lay : List (Int × Int), ((layNext moves syms lay).map (·.2)).count st = cntM (fun i => (lay.map (·.2)).count i) st moves
 | [] => by rw [List.map_nil, cntM_nil]; rfl
 | p :: lay => by
   rw [map_cons, cntM_cons, <- layNext_count mnd snd hs hk st lay, moves_count mnd snd hs hk]; unfold layNext; rw [flatMap_cons, map_append, List.count_append]
   exact congrArg (· + _) (next_count moves p.1 p.2 st syms)
end
section
theorem fitAll_nd (E : List (Int × Int)) : ((fitAll E).map (·.1)).Nodup := by
 have h : ∀ (E : List (Int × Int)) (f : List (Int × List Int)), (f.map (·.1)).Nodup -> ((E.foldl fitAdd f).map (·.1)).Nodup := by
   intro E
   induction E with
   | nil => intro f h; exact h
   | cons e E ih => intro f h; exact ih _ (gPut_nd h)
 exact h E [] nodup_nil
theorem fit_key {E : List (Int × Int)} {k : Int} : k ∈ (fitAll E).map (·.1) ↔ ∃ e ∈ E, e.1 = k := by
 rw [<- gGet_some, (fitAll_get k E).2]
theorem get_uniq {α : Type} {l : List α} (nd : l.Nodup) {i j : Nat} {x : α} (h1 : l[i]? = some x) (h2 : l[j]? = some x) : i = j := by
 obtain ⟨hi, e1⟩ := List.getElem?_eq_some_iff.mp h1; obtain ⟨hj, e2⟩ := List.getElem?_eq_some_iff.mp h2; rcases Nat.lt_trichotomy i j with h | h | h
 . exact absurd (e1.trans e2.symm) (List.pairwise_iff_getElem.mp nd i j hi hj h)
 . exact h
 . exact absurd (e2.trans e1.symm) (List.pairwise_iff_getElem.mp nd j i hj hi h)
section
variable {rs : List (List Int)} {syms : List Int} {w : Int} {found : List (List Nat)} {moves : List (Int × Int)} {shelf : List Row}
noncomputable def WordSt (rs : List (List Int)) (syms : List Int) (found : List (List Nat)) (k : Nat) (p : Int × Int) : Prop :=
 ∃ (γ : List Int) (j : Nat) (s : List Nat), γ.length = k /\ (∀ x ∈ γ, x ∈ syms) /\ (∃ n, It rs γ n) /\ p = (enc γ, (j : Int)) /\ found[j]? = some s /\ IsSt rs γ s
structure LayW (rs : List (List Int)) (syms : List Int) (found : List (List Nat)) (k : Nat) (lay tab : List (Int × Int)) : Prop where
 nd : (lay.map (·.1)).Nodup
 mem : ∀ p, p ∈ lay ↔ WordSt rs syms found k p
 cnt : IsCnt tab fun st => (lay.map (·.2)).count st
theorem layW_zero (M : MachRes rs syms w found moves shelf) : LayW rs syms found 0 [(0, 0)] [(0, 1)] where
 nd := by simp
 mem p := by
   obtain ⟨s0, h1, h2⟩ := M.start; rw [mem_singleton]; constructor
   . rintro rfl; exact ⟨[], 0, s0, rfl, by simp, ⟨0, .zero⟩, rfl, h1, isSt_start h2⟩
   . rintro ⟨γ, j, s, hl, _, _, rfl, hj, hs⟩; obtain rfl := List.length_eq_zero_iff.mp hl; obtain rfl := isSt_uniq hs (isSt_start h2); rw [get_uniq M.nd hj h1]; rfl
 cnt := by
   refine ⟨by simp, fun st => ?_⟩
   show (if (0 : Int) = st then some 1 else none) = if List.count st [(0 : Int)] = 0 then none else some ((List.count st [(0 : Int)] : Nat) : Int)
   by_cases h : (0 : Int) = st
   . subst h; rfl
   . have : List.count st [(0 : Int)] = 0 := List.count_eq_zero.mpr (by simpa using fun e : st = 0 => h e.symm); rw [this, if_neg h, if_pos rfl]
theorem layW_succ (M : MachRes rs syms w found moves shelf) (snd : syms.Nodup) (hs : ∀ x ∈ syms, 1 <= x /\ x < 512) {k : Nat} {lay tab : List (Int × Int)} (L : LayW rs syms found k lay tab) : LayW rs syms found (k + 1) (layNext moves syms lay) (furtP moves tab) where
 nd := by
   unfold layNext; rw [map_flatMap]; refine nodup_flat (fun p _ => ?_) ?_
   . rw [map_flatMap]; refine nodup_flat (fun X _ => ?_) ?_
     . cases gGet moves (512 * p.2 + X) <;> simp
     . refine List.Pairwise.imp ?_ snd; intro X Y hXY x hx hy; cases h1 : gGet moves (512 * p.2 + X) <;> rw [h1] at hx <;> cases h2 : gGet moves (512 * p.2 + Y) <;> rw [h2] at hy <;> simp at hx hy
       lia
   . have := L.nd; rw [List.Nodup, pairwise_map] at this; refine List.Pairwise.imp ?_ this; intro p q hpq x hx hy; rw [map_flatMap, mem_flatMap] at hx hy; obtain ⟨X, hX, hx⟩ := hx; obtain ⟨Y, hY, hy⟩ := hy; have b1 := hs X hX; have b2 := hs Y hY; cases h1 : gGet moves (512 * p.2 + X) <;> rw [h1] at hx <;> cases h2 : gGet moves (512 * q.2 + Y) <;> rw [h2] at hy <;> simp at hx hy
     lia
 mem p := by
   unfold layNext; rw [mem_flatMap]; constructor
   . rintro ⟨q, hq, hp⟩; obtain ⟨X, hX, hp⟩ := List.mem_flatMap.mp hp; obtain ⟨γ, j, s, hl, hg, hn, rfl, hj, hS⟩ := (L.mem q).mp hq; obtain ⟨m1, m2⟩ := M.mv j s X hj hX; by_cases hm : moved rs s X = []
     . dsimp only at hp; rw [m1 hm] at hp; cases hp
     . obtain ⟨j', s', e, hj', hc⟩ := m2 hm; dsimp only at hp; rw [e, mem_singleton] at hp; refine ⟨X :: γ, j', s', by rw [length_cons, hl], fun x hx => ?_, (moved_viable hS).mp hm, hp, hj', isSt_step hS hc⟩; rcases List.mem_cons.mp hx with rfl | hx
       . exact hX
       . exact hg x hx
   . rintro ⟨γ, j, s, hl, hg, ⟨n, hn⟩, rfl, hj, hS⟩
     cases γ with
     | nil => cases hl
     | cons X γ =>
       obtain ⟨m, hm, hx⟩ := it_last hn _ _ rfl; have hg' : ∀ x ∈ γ, x ∈ syms := fun x h => hg x (mem_cons_of_mem _ h); obtain ⟨i, s1, _, h2, h3⟩ := mach_walk M γ hg' ⟨m, hm⟩; refine ⟨(enc γ, (i : Int)), (L.mem _).mpr ⟨γ, i, s1, by simpa using hl, hg', ⟨m, hm⟩, rfl, h2, h3⟩, List.mem_flatMap.mpr ⟨X, hg X mem_cons_self, ?_⟩⟩; obtain ⟨j', s', h4, h5, h6⟩ := (M.mv i s1 X h2 (hg X mem_cons_self)).2 ((moved_viable h3).mpr ⟨n, hn⟩); dsimp only; rw [h4, mem_singleton]; obtain rfl := isSt_uniq hS (isSt_step h3 h6); rw [get_uniq M.nd hj h5]; rfl
 cnt := by
   have h := furt_cnt L.cnt moves [] (fun _ => 0) ⟨nodup_nil, fun _ => rfl⟩
   have e : (fun st => ((layNext moves syms lay).map (·.2)).count st) = fun st => 0 + cntM (fun i => (lay.map (·.2)).count i) st moves := by
     funext st
     rw [zero_add]; exact layNext_count M.mnd snd hs (fun k hk => by obtain ⟨i, X, _, hX, e⟩ := M.mkey k hk; exact ⟨i, X, hX, e⟩) st lay
   rw [e]; exact h
set_option tactic.hygienic true in
theorem it_in (hin : ∀ r ∈ rs, ∀ x ∈ r.drop 1, x ∈ syms) {γ : List Int} {n : Nat} (h : It rs γ n) : ∀ x ∈ γ, x ∈ syms := by
 induction h with
 | zero => intro x hx; cases hx
 | move h1 h2 ih =>
   rename_i γ n X
   rw [forall_mem_cons]; refine ⟨?_, ih⟩; obtain ⟨rule, hr⟩ := next_none h2; unfold nextSym at h2; rw [getD_eq_getElem?_getD, hr, Option.getD_some] at h2; have h3 : X ∈ (rule.drop (1 + n % 8)).take 1 := by rw [h2]; exact List.mem_singleton.mpr rfl
   have h4 := mem_of_mem_take h3; rw [<- List.drop_drop] at h4; exact hin rule (mem_of_getElem? hr) X (mem_of_mem_drop h4)
 | step _ _ _ _ ih => exact ih
theorem layW_ok {A E : List (Int × Int)} (R : RulesOk rs) (hin : ∀ r ∈ rs, ∀ x ∈ r.drop 1, x ∈ syms) (F : FitRes rs A E) (M : MachRes rs syms w found moves shelf) {k : Nat} (hk : k <= 3)
   (hW : ∃ W : List (List Int), W.length <= 63 /\ ∀ γ, γ.length = k -> (∃ n, It rs γ n) -> γ ∈ W) {lay tab : List (Int × Int)} (L : LayW rs syms found k lay tab) : LayOk found (fitAll E) k lay tab where
 nd := L.nd
 perm := by
   refine (List.perm_ext_iff_of_nodup (List.Nodup.sublist List.filter_sublist (fitAll_nd E)) L.nd).mpr fun x => ?_; rw [mem_filter, fit_key, mem_map]; constructor
   . rintro ⟨⟨e, he, rfl⟩, hx⟩; obtain ⟨γ, n, rfl, hg, hn⟩ := fit_form R F he; have hl := (inLay_iff hg k).mp hx; have hg' := it_in hin hn; obtain ⟨j, s, _, h2, h3⟩ := mach_walk M γ hg' ⟨n, hn⟩; exact ⟨(enc γ, (j : Int)), (L.mem _).mpr ⟨γ, j, s, hl, hg', ⟨n, hn⟩, rfl, h2, h3⟩, rfl⟩
   . rintro ⟨p, hp, rfl⟩; obtain ⟨γ, j, s, hl, hg, ⟨n, hn⟩, rfl, hj, hS⟩ := (L.mem p).mp hp; have hsy := it_sym R hn; exact ⟨⟨_, (fit_iff R F (by lia) hsy n).mpr hn, rfl⟩, (inLay_iff hsy k).mpr hl⟩
 item p hp := by
   obtain ⟨γ, j, s, hl, hg, ⟨n, hn⟩, rfl, hj, hS⟩ := (L.mem p).mp hp; have hsy := it_sym R hn; obtain ⟨h1, h2⟩ := fitAll_get (enc γ) E; have h3 := h2.mpr ⟨_, (fit_iff R F (by lia) hsy n).mpr hn, rfl⟩; obtain ⟨its, hits⟩ := Option.isSome_iff_exists.mp h3; refine ⟨j, s, its, rfl, hj, hits, ?_, hS.sorted⟩; rw [hits, Option.getD_some] at h1; have hnd := List.Nodup.sublist (List.filter_sublist (p := fun e => decide (e.1 = enc γ))) (fit_nd R F); refine (List.perm_ext_iff_of_nodup ?_ ?_).mpr fun z => ?_
   . rw [h1, List.Nodup, pairwise_map]; refine List.Pairwise.imp_of_mem ?_ hnd; intro a b ha hb hab e; have h4 := of_decide_eq_true (List.mem_filter.mp ha).2; have h5 := of_decide_eq_true (List.mem_filter.mp hb).2; exact hab (Prod.ext (h4.trans h5.symm) e)
   . rw [List.Nodup, pairwise_map]; exact List.Pairwise.imp (fun h e => by lia) hS.sorted
   . rw [h1]; simp only [mem_map, mem_filter, decide_eq_true_eq]; constructor
     . rintro ⟨e, ⟨he, h4⟩, rfl⟩; obtain ⟨δ, m, rfl, hd, hm⟩ := fit_form R F he; obtain rfl := enc_inj hd hsy h4; exact ⟨m, (hS.mem m).mpr hm, rfl⟩
     . rintro ⟨m, hm, rfl⟩; exact ⟨_, ⟨(fit_iff R F (by lia) hsy m).mpr ((hS.mem m).mp hm), rfl⟩, rfl⟩
 tnd := L.cnt.1
 tab := L.cnt.2
 small := by
   obtain ⟨W, hl, hW⟩ := hW
   have : (lay.map (·.1)).length <= (W.map enc).length := nodup_sub_len L.nd fun x hx => by
     obtain ⟨p, hp, rfl⟩ := List.mem_map.mp hx; obtain ⟨γ, j, s, hl, hg, hn, rfl, hj, hS⟩ := (L.mem p).mp hp; exact mem_map_of_mem (hW γ hl hn)
   rw [length_map, length_map] at this
   lia
end
end
section
structure Gr (a b : Int) (rs : List (List Int)) (b1 f1 b2 f2 : List Int) : Prop where
 eq : rs = [[256, 257], 257 :: b1, 257 :: f1, 258 :: b2, 258 :: f2]
 lb1 : b1.length <= 2
 lb2 : b2.length <= 2
 lf1 : f1.length <= 3
 lf2 : f2.length <= 3
 tb1 : ∀ x ∈ b1, x = a \/ x = b
 tb2 : ∀ x ∈ b2, x = a \/ x = b
 sf1 : ∀ x ∈ f1, x = a \/ x = b \/ x = 257 \/ x = 258
 sf2 : ∀ x ∈ f2, x = a \/ x = b \/ x = 257 \/ x = 258
 ha : 7 <= a /\ a < 55
 hb : 7 <= b /\ b < 55
 ab : a ≠ b
theorem gram_gr {a b d1 d2 d3 : Int} (ha : 7 <= a /\ a < 55) (hb : 7 <= b /\ b < 55) (ab : a ≠ b) : ∃ b1 f1 b2 f2, Gr a b (gramR a b d1 d2 d3) b1 f1 b2 f2 := by
 have hbm : ∀ left x, ∀ s ∈ (bareR a b left x).drop 1, s = a \/ s = b := by
   intro left x s h; have h := mem_of_mem_take (show s ∈ take _ _ from h); simp only [mem_cons, not_mem_nil, or_false] at h; unfold selT at h
   rcases h with h | h <;> (split at h) <;> simp [h]
 have hbl : ∀ left x, ((bareR a b left x).drop 1).length <= 2 := by
   intro left x; exact length_take_le' _ _
 have hfm : ∀ left y, ∀ s ∈ (fullR a b left y).drop 1, s = a \/ s = b \/ s = 257 \/ s = 258 := by
   intro left y s h; obtain ⟨z, _, rfl⟩ := List.mem_map.mp (show s ∈ List.map _ _ from h); exact fullS_in a b y z
 have hfl : ∀ left y, ((fullR a b left y).drop 1).length <= 3 := by
   intro left y; show (List.map _ (take _ _)).length <= 3; rw [length_map]; exact length_take_le' _ _
 exact ⟨_, _, _, _, ⟨rfl, hbl 257 d1, hbl 258 (d1 / 12), hfl 257 d2, hfl 258 d3, hbm 257 d1, hbm 258 (d1 / 12), hfm 257 d2, hfm 258 d3, ha, hb, ab⟩⟩
noncomputable abbrev symsOf (a b : Int) : List Int := [a, b, 257, 258]
section
variable {a b : Int} {rs : List (List Int)} {b1 f1 b2 f2 : List Int} (G : Gr a b rs b1 f1 b2 f2)
include G
theorem Gr.get {j : Nat} {r : List Int} (h : rs[j]? = some r) : (j = 0 /\ r = [256, 257]) \/ (j = 1 /\ r = 257 :: b1) \/ (j = 2 /\ r = 257 :: f1) \/ (j = 3 /\ r = 258 :: b2) \/ (j = 4 /\ r = 258 :: f2) := by
 rw [G.eq] at h
 match j, h with
 | 0, h => cases h; simp
 | 1, h => cases h; simp
 | 2, h => cases h; simp
 | 3, h => cases h; simp
 | 4, h => cases h; simp
 | j + 5, h => cases h
theorem Gr.inSyms : ∀ r ∈ rs, ∀ x ∈ r.drop 1, x ∈ symsOf a b := by
 intro r hr x hx; obtain ⟨j, hj⟩ := List.getElem?_of_mem hr; rcases G.get hj with ⟨_, rfl⟩ | ⟨_, rfl⟩ | ⟨_, rfl⟩ | ⟨_, rfl⟩ | ⟨_, rfl⟩
 . simp at hx; simp [hx]
 . rcases G.tb1 x hx with h | h <;> simp [h]
 . rcases G.sf1 x hx with h | h | h | h <;> simp [h]
 . rcases G.tb2 x hx with h | h <;> simp [h]
 . rcases G.sf2 x hx with h | h | h | h <;> simp [h]
theorem Gr.symBound : ∀ x ∈ symsOf a b, 1 <= x /\ x < 512 := by
 have h1 := G.ha; have h2 := G.hb; intro x hx; simp only [mem_cons, not_mem_nil, or_false] at hx; rcases hx with rfl | rfl | rfl | rfl
 . exact opB h1
 . exact opB h2
 all_goals decide
theorem Gr.symNd : (symsOf a b).Nodup := by
 have h1 := G.ha; have h2 := G.hb; have h3 := G.ab; simp only [nodup_cons, mem_cons, not_mem_nil, or_false, not_or, nodup_nil, not_false_iff, and_true]; exact ⟨⟨h3, opN h1 (by decide), opN h1 (by decide)⟩, ⟨opN h2 (by decide), opN h2 (by decide)⟩, by decide⟩
theorem Gr.rulesLen : ∀ r ∈ rs, r.length <= 4 /\ r ≠ [] := by
 intro r hr; obtain ⟨j, hj⟩ := List.getElem?_of_mem hr; have l1 := G.lb1; have l2 := G.lb2; have l3 := G.lf1; have l4 := G.lf2; rcases G.get hj with ⟨_, rfl⟩ | ⟨_, rfl⟩ | ⟨_, rfl⟩ | ⟨_, rfl⟩ | ⟨_, rfl⟩
 . exact ⟨by show 2 <= 4; decide, cons_ne_nil _ _⟩
 . exact ⟨succ_le_succ (Nat.le_succ_of_le l1), cons_ne_nil _ _⟩
 . exact ⟨succ_le_succ l3, cons_ne_nil _ _⟩
 . exact ⟨succ_le_succ (Nat.le_succ_of_le l2), cons_ne_nil _ _⟩
 . exact ⟨succ_le_succ l4, cons_ne_nil _ _⟩
theorem Gr.rulesOk : RulesOk rs where
 first := by
   refine ⟨[256, 257], by rw [G.eq]; rfl, rfl, fun i r hi hr => ?_⟩; rcases G.get hi with ⟨h, rfl⟩ | ⟨h, rfl⟩ | ⟨h, rfl⟩ | ⟨h, rfl⟩ | ⟨h, rfl⟩
   . exact h
   all_goals exact absurd hr (show ¬ (_ : Int) = 256 by simp [List.headD])
 len r hr := ⟨le_trans (G.rulesLen r hr).1 (by decide), (G.rulesLen r hr).2⟩
 sym r hr x hx := by
   have h1 := G.ha; have h2 := G.hb; have := G.inSyms r hr x hx; simp only [mem_cons, not_mem_nil, or_false] at this; rcases this with rfl | rfl | rfl | rfl
   . exact ⟨(opB h1).1, (opB h1).2, opN h1 (by decide)⟩
   . exact ⟨(opB h2).1, (opB h2).2, opN h2 (by decide)⟩
   all_goals decide
theorem Gr.ru {X : Int} : (X = 256 -> ruOf 0 rs X = [0]) /\ (X = 257 -> ruOf 0 rs X = [1, 2]) /\ (X = 258 -> ruOf 0 rs X = [3, 4]) := by
 rw [G.eq]; refine ⟨?_, ?_, ?_⟩ <;> rintro rfl <;> rfl
end
theorem last_max : ∀ {l : List Nat} {m : Nat}, l.Pairwise (· < ·) -> l.getLast? = some m -> m ∈ l /\ ∀ i ∈ l, i <= m := by
 intro l m h e; obtain ⟨ys, rfl⟩ := List.getLast?_eq_some_iff.mp e; refine ⟨by simp, fun i hi => ?_⟩; rw [List.pairwise_append] at h; rcases List.mem_append.mp hi with h1 | h1
 . exact le_of_lt (h.2.2 i h1 m (by simp))
 . rw [List.mem_singleton.mp h1]; exact le_refl _
structure Lin (a b : Int) (rs : List (List Int)) (k : Nat) (line : List Int) : Prop where
 len : line.length <= 1 + 3 * k
 zero : k = 0 -> line = [256]
 sym : 0 < k -> ∀ x ∈ line, x ∈ symsOf a b
 opn : ∀ i X, line[i]? = some X -> 255 < X -> ∀ j rule, rs[j]? = some rule -> rule.headD 0 = X -> It rs (line.take i).reverse (8 * j)
section
variable {a b w d4 : Int} {rs : List (List Int)} {b1 f1 b2 f2 : List Int} {found : List (List Nat)} {moves : List (Int × Int)} {shelf : List Row}
theorem lin_zero (G : Gr a b rs b1 f1 b2 f2) : Lin a b rs 0 [256] where
 len := by simp
 zero _ := rfl
 sym h := absurd h (lt_irrefl _)
 opn i X hi hX j rule hj hh := by
   cases i with
   | succ i => cases hi
   | zero =>
     cases hi
     obtain ⟨r0, _, _, h3⟩ := G.rulesOk.first
     rw [h3 j rule hj hh]; exact .zero
theorem lin_step (G : Gr a b rs b1 f1 b2 f2) (M : MachRes rs (symsOf a b) w found moves shelf) {k : Nat} {line : List Int} (hk : k < 7) (L : Lin a b rs k line) : LinOk rs found moves d4 k line (Lin a b rs (k + 1)) where
 len := le_trans L.len (le_trans (add_le_add_left (mul_le_mul_left 3 (le_of_lt hk)) 1) (by decide))
 go last hlast := by
   obtain ⟨hm, hmax⟩ := last_max (opens_sorted line 0) hlast; obtain ⟨_, hll, hX⟩ := (opens_mem line 0).mp hm; rw [zero_add] at hll; rw [sub_zero] at hX; have hget : line[last]? = some (line.getD last 0) := by rw [getD_eq_getElem?_getD, getElem?_eq_getElem hll]; rfl
   obtain ⟨r, rule, h1, h2, h3⟩ : ∃ (r : Nat) (rule : List Int), (ruOf 0 rs (line.getD last 0))[(idxOf d4 k).toNat]? = some r /\ rs[r]? = some rule /\ rule.headD 0 = line.getD last 0 := by
     obtain ⟨u1, u2, u3⟩ := G.ru (X := line.getD last 0); have hi := idx_nn d4 k; rcases Nat.eq_zero_or_pos k with rfl | hk0
     . have := L.zero rfl; subst this; have : last = 0 := by simp at hll; exact hll
       subst this; refine ⟨0, [256, 257], ?_, by rw [G.eq]; rfl, rfl⟩; rw [u1 rfl]; rfl
     . have hs := L.sym hk0 _ (mem_of_getElem? hget); have ha := G.ha; have hb := G.hb; have ht : (idxOf d4 k).toNat = 0 \/ (idxOf d4 k).toNat = 1 := nat2 _ ((toNat_lt hi.1).mpr hi.2); simp only [mem_cons, not_mem_nil, or_false] at hs; rcases hs with h | h | h | h
       . exact absurd (Int.lt_trans (h ▸ hX) ha.2) (by decide)
       . exact absurd (Int.lt_trans (h ▸ hX) hb.2) (by decide)
       . rw [u2 h, G.eq, h]; rcases ht with e | e <;> rw [e]
         . exact ⟨1, 257 :: b1, rfl, rfl, rfl⟩
         . exact ⟨2, 257 :: f1, rfl, rfl, rfl⟩
       . rw [u3 h, G.eq, h]; rcases ht with e | e <;> rw [e]
         . exact ⟨3, 258 :: b2, rfl, rfl, rfl⟩
         . exact ⟨4, 258 :: f2, rfl, rfl, rfl⟩
   have hmr := mem_of_getElem? h2; have hrl := G.rulesLen rule hmr; have hrp := List.length_pos_iff.mpr hrl.2; have hI := L.opn last _ hget hX r rule h2 h3; have htl : (line.take last).length = last := by rw [length_take]; exact min_eq_left (le_of_lt hll)
   have honto : ∀ size, size <= rule.length - 1 -> ((line.take last ++ rule.drop 1 ++ line.drop (last + 1)).take (last + size)).reverse = onto rule size (line.take last).reverse := by
     intro size hs; rw [append_assoc, List.take_append, htl, take_of_length_le (by rw [htl]; exact le_add_right _ _), Nat.add_sub_cancel_left, List.take_append_of_le_length (by rw [length_drop]; exact hs), List.reverse_append]
   have hnew : ∀ x ∈ line.take last ++ rule.drop 1 ++ line.drop (last + 1), x ∈ symsOf a b := by
     intro x hx; rw [append_assoc, mem_append, mem_append] at hx; rcases Nat.eq_zero_or_pos k with rfl | hk0
     . have := L.zero rfl; subst this; have : last = 0 := by simp at hll; exact hll
       subst this; rcases hx with hx | hx | hx
       . cases hx
       . exact G.inSyms rule hmr x hx
       . cases hx
     . rcases hx with hx | hx | hx
       . exact L.sym hk0 x (mem_of_mem_take hx)
       . exact G.inSyms rule hmr x hx
       . exact L.sym hk0 x (mem_of_mem_drop hx)
   refine ⟨r, rule, h1, h2, hrl.2, ?_, fun size hs => ?_⟩
   . refine ⟨?_, fun h => absurd h (Nat.succ_ne_zero k), fun _ => hnew, fun i X hi hXX j rl hj hh => ?_⟩
     . have : last + (line.length - (last + 1)) + 1 <= 1 + 3 * k := by rw [add_right_comm, add_sub_of_le hll]; exact L.len
       rw [length_append, length_append, htl, length_drop, length_drop, mul_succ, <- add_assoc]; refine le_trans (add_le_add_right (add_le_add_left (Nat.sub_le_sub_right hrl.1 1) last) _) ?_; rw [add_right_comm]; exact add_le_add_right (le_of_succ_le this) 3
     . rcases lt_or_ge i last with hlt | hge
       . rw [append_assoc, getElem?_append_left (by rw [htl]; exact hlt), List.getElem?_take_of_lt hlt] at hi; have := L.opn i X hi hXX j rl hj hh; rwa [append_assoc, List.take_append_of_le_length (by rw [htl]; exact le_of_lt hlt), List.take_take, min_eq_left (le_of_lt hlt)]
       . obtain ⟨d, rfl⟩ : ∃ d, i = last + d := ⟨i - last, (add_sub_of_le hge).symm⟩; rcases lt_or_ge d (rule.length - 1) with hd | hd
         . rw [honto d (le_of_lt hd)]; rw [append_assoc, getElem?_append_right (by rw [htl]; exact le_add_right _ _), htl, Nat.add_sub_cancel_left, getElem?_append_left (by rw [length_drop]; exact hd), getElem?_drop, add_comm 1 d] at hi; exact it_open G.rulesOk.len h2 hI hi (Int.add_one_le_of_lt hXX) hj hh
         . exfalso; rw [append_assoc, getElem?_append_right (by rw [htl]; exact le_add_right _ _), htl, Nat.add_sub_cancel_left, getElem?_append_right (by rw [length_drop]; exact hd), getElem?_drop, length_drop] at hi; obtain ⟨q, e⟩ : ∃ q, last + 1 + (d - (rule.length - 1)) = q := ⟨_, rfl⟩; rw [e] at hi; obtain ⟨hq, _⟩ := List.getElem?_eq_some_iff.mp hi; have : q ∈ opens 0 line := (opens_mem line 0).mpr ⟨zero_le _, by rw [zero_add]; exact hq, by rw [sub_zero, getD_eq_getElem?_getD, hi]; exact hXX⟩; exact absurd (le_trans (le_of_eq e) (hmax q this)) (Nat.not_le.mpr (lt_of_lt_of_le (lt_succ_self last) (le_add_right _ _)))
   . have hsz : size <= rule.length - 1 := hs.elim (fun h => h ▸ zero_le _) le_of_eq; have hIt := it_onto G.rulesOk.len h2 hI size (lt_of_le_of_lt hsz (sub_lt hrp one_pos)); rw [<- honto size hsz] at hIt; obtain ⟨j, s, w1, w2, w3⟩ := mach_walk M _ (it_in G.inSyms hIt) ⟨_, hIt⟩; rw [List.reverse_reverse] at w1; exact ⟨j, s, w1, w2, (w3.mem _).mpr hIt⟩
end
end
section
noncomputable def wordsN (syms : List Int) : Nat -> List (List Int)
 | 0 => [[]]
 | n + 1 => (wordsN syms n).flatMap fun γ => syms.map fun X => X :: γ
theorem mem_wordsN {syms : List Int} : ∀ {n : Nat} {γ : List Int}, γ ∈ wordsN syms n ↔ γ.length = n /\ ∀ x ∈ γ, x ∈ syms
 | 0, γ => by
   show γ ∈ [[]] ↔ _; rw [mem_singleton]; constructor
   . rintro rfl; simp
   . rintro ⟨h, _⟩; exact List.length_eq_zero_iff.mp h
 | n + 1, γ => by
   show γ ∈ (wordsN syms n).flatMap _ ↔ _; simp only [mem_flatMap, mem_map]; constructor
   . rintro ⟨δ, hd, X, hX, rfl⟩; obtain ⟨h1, h2⟩ := mem_wordsN.mp hd; refine ⟨by rw [length_cons, h1], fun x hx => ?_⟩; rcases List.mem_cons.mp hx with rfl | hx
     . exact hX
     . exact h2 x hx
   . rintro ⟨h1, h2⟩
     cases γ with
     | nil => cases h1
     | cons X γ =>
       exact ⟨γ, mem_wordsN.mpr ⟨by simpa using h1, fun x hx => h2 x (mem_cons_of_mem _ hx)⟩, X, h2 X mem_cons_self, rfl⟩
section
variable {a b w : Int} {rs : List (List Int)} {b1 f1 b2 f2 : List Int} (G : Gr a b rs b1 f1 b2 f2)
include G
theorem Gr.item_lt {γ : List Int} {n : Nat} (h : It rs γ n) : n < 40 := by
 obtain ⟨j, k, rule, γ0, rfl, hj, hk, _, _⟩ := it_dec G.rulesOk.pos G.rulesOk.len h; have h4 := (G.rulesLen rule (mem_of_getElem? hj)).1; have hj5 : j < 5 := by rcases G.get hj with ⟨h, _⟩ | ⟨h, _⟩ | ⟨h, _⟩ | ⟨h, _⟩ | ⟨h, _⟩ <;> rw [h] <;> decide
 exact lt_of_lt_of_le (Nat.add_lt_add_left (lt_of_lt_of_le hk h4) _) (le_trans (add_le_add_right (mul_le_mul_left 8 (le_of_lt_succ hj5)) 4) (by decide))
theorem Gr.state_lt {syms : List Int} {s : List Nat} (h : StateR rs syms s) : (∀ n ∈ s, n < 64) /\ s.length <= 40 := by
 obtain ⟨γ, hS, _, _⟩ := stateR_word h; have h1 : ∀ n ∈ s, n < 40 := fun n hn => G.item_lt ((hS.mem n).mp hn); exact ⟨fun n hn => lt_trans (h1 n hn) (by decide), sorted_bound hS.sorted h1⟩
omit G in
theorem Gr.moves_len {found : List (List Nat)} {moves : List (Int × Int)} {shelf : List Row} (M : MachRes rs (symsOf a b) w found moves shelf) (hf : found.length <= 63) : moves.length <= 1000 := by
 have h : (moves.map (·.1)).length <= ((List.range 63).flatMap fun i : Nat => (symsOf a b).map fun X => 512 * (i : Int) + X).length := nodup_sub_len M.mnd fun k hk => by
   obtain ⟨i, X, hi, hX, rfl⟩ := M.mkey k hk; exact List.mem_flatMap.mpr ⟨i, List.mem_range.mpr (lt_of_lt_of_le hi hf), mem_map_of_mem hX⟩
 have h2 := flat_len (f := fun i : Nat => (symsOf a b).map fun X => 512 * (i : Int) + X) (c := 4) (l := List.range 63) fun i _ => le_refl 4; rw [length_map] at h; rw [length_range] at h2; exact le_trans h (le_trans h2 (by decide))
noncomputable def upto3 (syms : List Int) : List (List Int) := wordsN syms 0 ++ wordsN syms 1 ++ wordsN syms 2 ++ wordsN syms 3
omit G in
theorem mem_upto3 {syms γ : List Int} : γ ∈ upto3 syms ↔ γ.length <= 3 /\ ∀ x ∈ γ, x ∈ syms := by
 unfold upto3; rw [mem_append, mem_append, mem_append, mem_wordsN, mem_wordsN, mem_wordsN, mem_wordsN]; constructor
 . rintro (((h | h) | h) | h) <;> exact ⟨le_trans (le_of_eq h.1) (by decide), h.2⟩
 . rintro ⟨h, h'⟩; rcases nat4 _ (lt_succ_of_le h) with h | h | h | h
   . exact .inl (.inl (.inl ⟨h, h'⟩))
   . exact .inl (.inl (.inr ⟨h, h'⟩))
   . exact .inl (.inr ⟨h, h'⟩)
   . exact .inr ⟨h, h'⟩
noncomputable def three (γ : List Int) : List (Int × Int) := [(256, enc γ), (257, enc γ), (258, enc γ)]
theorem Gr.univ_step {p q : Int × Int} {γ : List Int} (hl : γ ∈ upto3 (symsOf a b)) (hp : p.2 = enc γ) (hq : q ∈ susOf rs p) : ∃ δ, δ ∈ upto3 (symsOf a b) /\ q ∈ three δ := by
 have hg := (mem_upto3.mp hl).2; obtain ⟨rule, hr, hh, k, hk, hlt, hk1, h255, rfl⟩ := mem_susOf.mp hq
 have hon : ∀ x ∈ onto rule k γ, x ∈ symsOf a b := fun x hx =>
   (List.mem_append.mp hx).elim (fun h => G.inSyms rule hr x (mem_of_mem_take (List.mem_reverse.mp h))) (hg x)
 have hsy : SymOk (onto rule k γ) := fun x hx => G.symBound x (hon x hx); rw [hp, rowAt_onto rule γ k hk] at hlt ⊢
 have hlen : (onto rule k γ).length <= 3 := Nat.not_lt.mp fun hc =>
   Int.lt_irrefl _ (Int.lt_of_lt_of_le hlt (Int.le_trans (pow_mono (le_sub_one_of_lt hc)) (enc_ge hsy fun e => by rw [e] at hc; exact absurd hc (by decide))))
 refine ⟨_, mem_upto3.mpr ⟨hlen, hon⟩, ?_⟩
 have hX : rule.getD (k + 1) 0 ∈ rule.drop 1 := by
   rw [getD_eq_getElem?_getD, getElem?_eq_getElem hk1, Option.getD_some]; exact mem_of_getElem? (i := k) (by rw [getElem?_drop, add_comm, getElem?_eq_getElem hk1])
 have hx := G.inSyms rule hr _ hX; rcases List.mem_cons.mp hx with h | hx
 . exact absurd (Int.lt_trans (h ▸ h255) G.ha.2) (by decide)
 rcases List.mem_cons.mp hx with h | hx
 . exact absurd (Int.lt_trans (h ▸ h255) G.hb.2) (by decide)
 rcases List.mem_cons.mp hx with h | hx
 . rw [h]; exact mem_cons_of_mem _ mem_cons_self
 . rw [List.mem_singleton.mp hx]; exact mem_cons_of_mem _ (mem_cons_of_mem _ mem_cons_self)
theorem Gr.univ : ∃ V : List (Int × Int), (256, 0) ∈ V /\ (∀ p ∈ V, ∀ q ∈ susOf rs p, q ∈ V) /\ V.length <= 1000 := by
 refine ⟨(upto3 (symsOf a b)).flatMap three, List.mem_flatMap.mpr ⟨[], mem_upto3.mpr ⟨zero_le _, fun _ h => nomatch h⟩, mem_cons_self⟩, fun p hp q hq => ?_, le_trans (le_of_eq (show _ = 255 from rfl)) (by decide)⟩; obtain ⟨γ, hg, hp⟩ := List.mem_flatMap.mp hp
 have hp2 : ∀ p ∈ three γ, p.2 = enc γ := by
   unfold three; rw [forall_mem_cons, forall_mem_cons, List.forall_mem_singleton]; exact ⟨rfl, rfl, rfl⟩
 obtain ⟨δ, h1, h2⟩ := G.univ_step hg (hp2 p hp) hq; exact List.mem_flatMap.mpr ⟨δ, h1, h2⟩
noncomputable def nx (b1 f1 b2 f2 : List Int) (n : Nat) : Option Int := ([[257], b1, f1, b2, f2].getD (n / 8) [])[n % 8]?
theorem Gr.next {n : Nat} {X : Int} (h : nextSym rs n = [X]) : nx b1 f1 b2 f2 n = some X := by
 obtain ⟨rule, hr⟩ := next_none h; have h3 : nextSym rs (8 * (n / 8) + n % 8) = [X] := by rw [div_add_mod]; exact h
 rw [next_at hr (Nat.mod_lt _ (by decide))] at h3; unfold nx; rcases G.get hr with ⟨e, rfl⟩ | ⟨e, rfl⟩ | ⟨e, rfl⟩ | ⟨e, rfl⟩ | ⟨e, rfl⟩ <;> rw [e] <;> exact h3
theorem Gr.next_ne {n : Nat} {X : Int} (h : nextSym rs n = [X]) : X ≠ 256 := by
 obtain ⟨rule, hr⟩ := next_none h; have h3 : nextSym rs (8 * (n / 8) + n % 8) = [X] := by rw [div_add_mod]; exact h
 rw [next_at hr (Nat.mod_lt _ (by decide))] at h3; exact (G.rulesOk.sym rule (mem_of_getElem? hr) X (mem_of_getElem? (i := n % 8) (by rw [getElem?_drop, add_comm]; exact h3))).2.2
theorem Gr.adds {m : Nat} {X : Int} (h : m ∈ addsFrom 0 rs X) : (X = 256 /\ m = 0) \/ (X = 257 /\ (m = 8 \/ m = 16)) \/ (X = 258 /\ (m = 24 \/ m = 32)) := by
 obtain ⟨i, r, hi, hX, rfl⟩ := (mem_adds rs 0).mp h; rcases G.get hi with ⟨rfl, rfl⟩ | ⟨rfl, rfl⟩ | ⟨rfl, rfl⟩ | ⟨rfl, rfl⟩ | ⟨rfl, rfl⟩
 . exact .inl ⟨hX.symm, rfl⟩
 . exact .inr (.inl ⟨hX.symm, .inl rfl⟩)
 . exact .inr (.inl ⟨hX.symm, .inr rfl⟩)
 . exact .inr (.inr ⟨hX.symm, .inl rfl⟩)
 . exact .inr (.inr ⟨hX.symm, .inr rfl⟩)
theorem Gr.tb1' {k : Nat} {X : Int} (h : b1[k]? = some X) : X < 256 := by
 rcases G.tb1 X (mem_of_getElem? h) with e | e <;> rw [e]
 . exact Int.lt_trans G.ha.2 (by decide)
 . exact Int.lt_trans G.hb.2 (by decide)
theorem Gr.tb2' {k : Nat} {X : Int} (h : b2[k]? = some X) : X < 256 := by
 rcases G.tb2 X (mem_of_getElem? h) with e | e <;> rw [e]
 . exact Int.lt_trans G.ha.2 (by decide)
 . exact Int.lt_trans G.hb.2 (by decide)
theorem Gr.sf1' {k : Nat} {X : Int} (h : f1[k]? = some X) (h2 : 256 <= X) : X = 257 \/ X = 258 := by
 rcases G.sf1 X (mem_of_getElem? h) with e | e | e
 . exact absurd (Int.lt_of_le_of_lt (e ▸ h2) G.ha.2) (by decide)
 . exact absurd (Int.lt_of_le_of_lt (e ▸ h2) G.hb.2) (by decide)
 . exact e
theorem it_nil {n : Nat} (h : It rs [] n) : n = 0 \/ n = 8 \/ n = 16 \/ n = 24 \/ n = 32 := by
 obtain ⟨j, k, rule, γ0, rfl, hj, hk, e, hi⟩ := it_dec G.rulesOk.pos G.rulesOk.len h
 cases k with
 | zero => rcases G.get hj with ⟨h, _⟩ | ⟨h, _⟩ | ⟨h, _⟩ | ⟨h, _⟩ | ⟨h, _⟩ <;> rw [h] <;> decide
 | succ k =>
   have := (List.append_eq_nil_iff.mp e.symm).1; rw [List.reverse_eq_nil_iff, List.take_eq_nil_iff, List.drop_eq_nil_iff] at this; exact absurd (this.resolve_left (Nat.succ_ne_zero k)) (Nat.not_le.mpr (lt_of_le_of_lt (le_add_left 1 k) hk))
omit G in
theorem opX {x y : Int} {p : Prop} (h : 7 <= x /\ x < 55) (e : some y = some x) (hy : 55 <= y) : p := absurd (Option.some.inj e).symm (opN h hy)
theorem Gr.no_word : ∃ δ : List Int, δ ∈ wordsN (symsOf a b) 3 /\ ¬ ∃ n, It rs δ n := by
 have ma : a ∈ symsOf a b := mem_cons_self; have m7 : (257 : Int) ∈ symsOf a b := mem_cons_of_mem _ (mem_cons_of_mem _ mem_cons_self); have m8 : (258 : Int) ∈ symsOf a b := mem_cons_of_mem _ (mem_cons_of_mem _ (mem_cons_of_mem _ mem_cons_self))
 have w3 : ∀ {x y z : Int}, x ∈ symsOf a b -> y ∈ symsOf a b -> z ∈ symsOf a b -> [x, y, z] ∈ wordsN (symsOf a b) 3 := fun hx hy hz => mem_wordsN.mpr ⟨rfl, by
   rw [forall_mem_cons, forall_mem_cons, List.forall_mem_singleton]; exact ⟨hx, hy, hz⟩⟩
 have n7 : ∀ {p : Prop}, (257 : Int) < 256 -> p := fun h => absurd h (by decide); by_cases c1 : f1[0]? = some 258
 . by_cases c2 : f2[0]? = some 257
   . refine ⟨[a, 257, a], w3 ma m7 ma, ?_⟩
     have key : ∀ γ n, It rs γ n -> γ = [a] -> n = 9 \/ n = 25 := by
       intro γ n h
       induction h with
       | zero => intro e; cases e
       | @move γ n X h1 h2 ih =>
         intro e; cases e
         have q := G.next h2
         rcases it_nil G h1 with rfl | rfl | rfl | rfl | rfl
         . exact opX G.ha q (by decide)
         . exact .inl rfl
         . exact opX G.ha (c1.symm.trans q) (by decide)
         . exact .inr rfl
         . exact opX G.ha (c2.symm.trans q) (by decide)
       | @step γ n m X h1 h2 h5 h6 ih =>
         intro e; rcases ih e with rfl | rfl
         . exact absurd h5 (Int.not_le.mpr (G.tb1' (G.next h2)))
         . exact absurd h5 (Int.not_le.mpr (G.tb2' (G.next h2)))
     rintro ⟨n, hn⟩; obtain ⟨m, hm, _⟩ := it_last hn _ _ rfl; obtain ⟨m', hm', h2⟩ := it_last hm _ _ rfl; rcases key _ _ hm' rfl with rfl | rfl
     . exact n7 (G.tb1' (G.next h2))
     . exact n7 (G.tb2' (G.next h2))
   . refine ⟨[a, a, 257], w3 ma ma m7, ?_⟩
     have key : ∀ γ n, It rs γ n -> γ = [257] -> n = 1 := by
       intro γ n h
       induction h with
       | zero => intro e; cases e
       | @move γ n X h1 h2 ih =>
         intro e; cases e
         have q := G.next h2
         rcases it_nil G h1 with rfl | rfl | rfl | rfl | rfl
         . rfl
         . exact n7 (G.tb1' q)
         . exact absurd (Option.some.inj (c1.symm.trans q)) (by decide)
         . exact n7 (G.tb2' q)
         . exact absurd q c2
       | @step γ n m X h1 h2 h5 h6 ih =>
         intro e; obtain rfl := ih e
         cases show none = some X from G.next h2
     rintro ⟨n, hn⟩; obtain ⟨m, hm, _⟩ := it_last hn _ _ rfl; obtain ⟨m', hm', h2⟩ := it_last hm _ _ rfl; obtain rfl := key _ _ hm' rfl
     cases show none = some a from G.next h2
 . refine ⟨[a, a, 258], w3 ma ma m8, ?_⟩
   have key : ∀ γ n, It rs γ n -> γ = [] -> n = 0 \/ n = 8 \/ n = 16 := by
     intro γ n h
     induction h with
     | zero => intro _; exact .inl rfl
     | move h1 h2 ih => intro e; cases e
     | @step γ n m X h1 h2 h5 h6 ih =>
       intro e
       have q := G.next h2
       have hX : X = 257 := by
         rcases ih e with rfl | rfl | rfl
         . exact (Option.some.inj q).symm
         . exact absurd h5 (Int.not_le.mpr (G.tb1' q))
         . exact (G.sf1' q h5).resolve_right fun e => c1 (e ▸ q)
       rcases G.adds h6 with ⟨e, _⟩ | ⟨_, e⟩ | ⟨e, _⟩
       . exact absurd (hX.symm.trans e) (by decide)
       . exact .inr e
       . exact absurd (hX.symm.trans e) (by decide)
   rintro ⟨n, hn⟩; obtain ⟨m, hm, _⟩ := it_last hn _ _ rfl; obtain ⟨m', hm', _⟩ := it_last hm _ _ rfl; obtain ⟨m2, hm2, h2⟩ := it_last hm' _ _ rfl
   have q := G.next h2
   rcases key _ _ hm2 rfl with rfl | rfl | rfl
   . exact absurd (Option.some.inj q) (by decide)
   . exact absurd (G.tb1' q) (by decide)
   . exact c1 q
theorem Gr.words {k : Nat} (hk : k <= 3) : ∃ W : List (List Int), W.length <= 63 /\ ∀ γ, γ.length = k -> (∃ n, It rs γ n) -> γ ∈ W := by
 obtain ⟨δ, hd, hn⟩ := G.no_word; have hm : ∀ γ, γ.length = k -> (∃ n, It rs γ n) -> γ ∈ wordsN (symsOf a b) k := fun γ hl ⟨n, h⟩ => mem_wordsN.mpr ⟨hl, it_in G.inSyms h⟩; rcases nat4 k (lt_succ_of_le hk) with rfl | rfl | rfl | rfl
 . exact ⟨wordsN (symsOf a b) 0, show 1 <= 63 by decide, hm⟩
 . exact ⟨wordsN (symsOf a b) 1, show 4 <= 63 by decide, hm⟩
 . exact ⟨wordsN (symsOf a b) 2, show 16 <= 63 by decide, hm⟩
 . refine ⟨(wordsN (symsOf a b) 3).erase δ, ?_, fun γ hl hv => ?_⟩
   . rw [List.length_erase_of_mem hd]; exact le_refl 63
   . exact (List.mem_erase_of_ne fun e : γ = δ => hn (e ▸ hv)).mpr (hm γ hl hv)
end
end
section
section
variable {a b : Int} {rs : List (List Int)} {b1 f1 b2 f2 : List Int}
inductive Ker (rs : List (List Int)) (γ : List Int) (n : Nat) : Prop
 | intro (X : Int) (γ' : List Int) (m : Nat) (e : γ = X :: γ') (h1 : It rs γ' m) (h2 : nextSym rs m = [X]) (h3 : n = m + 1)
theorem ker_it {γ : List Int} {n : Nat} (h : Ker rs γ n) : It rs γ n := by
 obtain ⟨X, γ', m, rfl, h1, h2, rfl⟩ := h; exact .move h1 h2
theorem closed_of_ker {γ : List Int} {s w0 : List Nat} (hS : IsSt rs γ s) (hg : γ ≠ []) (h : ∀ n, Ker rs γ n ↔ n ∈ w0) : Closed rs w0 s where
 sorted := hS.sorted
 mem n := by
   rw [hS.mem]; exact ⟨fun hi => it_reach hi w0 (fun e => absurd e hg) fun X γ' m e h1 h2 => (h _).mp ⟨X, γ', m, e, h1, h2, rfl⟩, reach_it fun n hn => ker_it ((h n).mpr hn)⟩
theorem closed_self {γ : List Int} {s : List Nat} (hS : IsSt rs γ s) : Closed rs s s where
 sorted := hS.sorted
 mem n := ⟨.base, fun h => by
   induction h with
   | base h => exact h
   | step _ h1 h2 h3 ih => exact (hS.mem _).mpr (.step ((hS.mem _).mp ih) h1 h2 h3)⟩
theorem count_codes {U : List (List Nat)} : ∀ {fs : List (List Nat)}, fs.Nodup -> (∀ s ∈ fs, ∃ w0 ∈ U, Closed rs w0 s) -> fs.length <= U.length := by
 intro fs
 induction fs generalizing U with
 | nil => intro _ _; exact zero_le _
 | cons s fs ih =>
   intro hn h; rw [nodup_cons] at hn; obtain ⟨w0, hw, hc⟩ := h s mem_cons_self
   have := ih (U := U.erase w0) hn.2 fun t ht => by
     obtain ⟨w1, hw1, hc1⟩ := h t (mem_cons_of_mem _ ht); refine ⟨w1, (List.mem_erase_of_ne fun e => ?_).mpr hw1, hc1⟩; subst e; exact hn.1 (closed_uniq hc hc1 ▸ ht)
   rw [List.length_erase_of_mem hw] at this; exact le_trans (succ_le_succ this) (le_of_eq (sub_add_cancel (List.length_pos_of_mem hw)))
open Classical in
noncomputable def ee (rs : List (List Int)) (γ : List Int) : Bool × Bool := (decide (It rs γ 8), decide (It rs γ 24))
noncomputable def wrd (rs : List (List Int)) (j i : Nat) : List Int := (((rs.getD j []).drop 1).take i).reverse
noncomputable def mt (rs : List (List Int)) (γ : List Int) (i j : Nat) : Bool := decide (i < (rs.getD j []).length /\ wrd rs j i = γ.take i)
noncomputable def part (rs : List (List Int)) (γ : List Int) (i : Nat) (e : Bool × Bool) : List Nat := ((if e.1 then [1, 2].filter (mt rs γ i) else []) ++ (if e.2 then [3, 4].filter (mt rs γ i) else [])).map fun j => 8 * j + i
noncomputable def kern (rs : List (List Int)) (γ : List Int) (e1 e2 e3 : Bool × Bool) : List Nat := part rs γ 1 e1 ++ part rs γ 2 e2 ++ part rs γ 3 e3
theorem part_take (γ : List Int) {i k : Nat} (h : i <= k) (e : Bool × Bool) : part rs (γ.take k) i e = part rs γ i e := by
 have : ∀ j, mt rs (γ.take k) i j = mt rs γ i j := fun j => by
   unfold mt; rw [List.take_take, min_eq_left h]
 unfold part; rw [show mt rs (γ.take k) i = mt rs γ i from funext this]
theorem mem_part {γ : List Int} {i n : Nat} {e : Bool × Bool} : n ∈ part rs γ i e ↔ ∃ j, n = 8 * j + i /\ mt rs γ i j = true /\ ((e.1 = true /\ (j = 1 \/ j = 2)) \/ (e.2 = true /\ (j = 3 \/ j = 4))) := by
 unfold part; rw [mem_map]; constructor
 . rintro ⟨j, hj, rfl⟩; refine ⟨j, rfl, ?_⟩; rcases List.mem_append.mp hj with h | h
   . split at h
     . have := List.mem_filter.mp h; simp only [mem_cons, not_mem_nil, or_false] at this; exact ⟨this.2, .inl ⟨by assumption, this.1⟩⟩
     . cases h
   . split at h
     . have := List.mem_filter.mp h; simp only [mem_cons, not_mem_nil, or_false] at this; exact ⟨this.2, .inr ⟨by assumption, this.1⟩⟩
     . cases h
 . rintro ⟨j, rfl, hm, h⟩; refine ⟨j, List.mem_append.mpr ?_, rfl⟩; rcases h with ⟨h1, h2⟩ | ⟨h1, h2⟩
   . left; rw [if_pos h1]; exact List.mem_filter.mpr ⟨by rcases h2 with rfl | rfl <;> simp, hm⟩
   . right; rw [if_pos h1]; exact List.mem_filter.mpr ⟨by rcases h2 with rfl | rfl <;> simp, hm⟩
theorem mt_iff {γ : List Int} {i j : Nat} {rule : List Int} (hj : rs[j]? = some rule) : mt rs γ i j = true ↔ i < rule.length /\ ((rule.drop 1).take i).reverse = γ.take i := by
 unfold mt wrd; rw [decide_eq_true_iff, getD_eq_getElem?_getD, hj, Option.getD_some]
theorem mt_wrd {γ : List Int} {i j : Nat} (h : mt rs γ i j = true) : γ.take i = wrd rs j i := (of_decide_eq_true h).2.symm
theorem mt_onto {γ : List Int} {i j : Nat} {rule : List Int} (hj : rs[j]? = some rule) (h : mt rs γ i j = true) : i < rule.length /\ γ = onto rule i (γ.drop i) := by
 obtain ⟨h1, h2⟩ := (mt_iff hj).mp h; refine ⟨h1, ?_⟩; unfold onto; rw [h2, take_append_drop]
variable (G : Gr a b rs b1 f1 b2 f2)
include G
theorem it_zero_nil {γ : List Int} (h : It rs γ 0) : γ = [] := by
 have key : ∀ γ n, It rs γ n -> n = 0 -> γ = [] := by
   intro γ n h
   induction h with
   | zero => intro _; rfl
   | move => intro e; cases e
   | @step γ n m X h1 h2 h3 h4 ih =>
     intro e; rcases G.adds h4 with ⟨q, _⟩ | ⟨_, q | q⟩ | ⟨_, q | q⟩
     . exact absurd q (G.next_ne h2)
     all_goals exact absurd (e.symm.trans q) (by decide)
 exact key γ 0 h rfl
theorem it_S {γ : List Int} : It rs γ 8 ↔ It rs γ 16 := by
 have r1 : rs[1]? = some (257 :: b1) := by rw [G.eq]; rfl
 have r2 : rs[2]? = some (257 :: f1) := by rw [G.eq]; rfl
 exact ⟨fun h => it_same (i := 2) (j := 1) G.rulesOk.zero G.rulesOk.len h rfl r1 r2 rfl, fun h => it_same (i := 1) (j := 2) G.rulesOk.zero G.rulesOk.len h rfl r2 r1 rfl⟩
theorem it_T {γ : List Int} : It rs γ 24 ↔ It rs γ 32 := by
 have r1 : rs[3]? = some (258 :: b2) := by rw [G.eq]; rfl
 have r2 : rs[4]? = some (258 :: f2) := by rw [G.eq]; rfl
 exact ⟨fun h => it_same (i := 4) (j := 3) G.rulesOk.zero G.rulesOk.len h rfl r1 r2 rfl, fun h => it_same (i := 3) (j := 4) G.rulesOk.zero G.rulesOk.len h rfl r2 r1 rfl⟩
theorem ee_iff {γ : List Int} {j : Nat} {rule : List Int} (hj : rs[j]? = some rule) (h0 : j ≠ 0) : It rs γ (8 * j) ↔ (((ee rs γ).1 = true /\ (j = 1 \/ j = 2)) \/ ((ee rs γ).2 = true /\ (j = 3 \/ j = 4))) := by
 unfold ee; simp only [decide_eq_true_eq]; rcases G.get hj with ⟨h, _⟩ | ⟨rfl, _⟩ | ⟨rfl, _⟩ | ⟨rfl, _⟩ | ⟨rfl, _⟩
 . exact absurd h h0
 . simp
 . simp [it_S G]
 . simp
 . simp [it_T G]
inductive KerM (rs : List (List Int)) (γ : List Int) (n : Nat) : Prop
 | intro (i j : Nat) (h1 : 1 <= i) (h3 : i <= 3) (e : n = 8 * j + i) (hm : mt rs γ i j = true) (he : ((ee rs (γ.drop i)).1 = true /\ (j = 1 \/ j = 2)) \/ ((ee rs (γ.drop i)).2 = true /\ (j = 3 \/ j = 4)))
theorem ker_m {γ : List Int} (hg : γ ≠ [257]) (n : Nat) : Ker rs γ n ↔ KerM rs γ n := by
   constructor
   . rintro ⟨X, γ', m, rfl, h1, h2, rfl⟩; obtain ⟨j, k, rule, γ0, rfl, hj, hk, rfl, hi⟩ := it_dec G.rulesOk.pos G.rulesOk.len h1; have h4 := (G.rulesLen rule (mem_of_getElem? hj)).1; rw [next_at hj (lt_of_lt_of_le hk (le_trans h4 (by decide)))] at h2; obtain ⟨hl, _⟩ := List.getElem?_eq_some_iff.mp h2; have hon := onto_succ (γ := γ0) h2; have hlen : ((rule.drop 1).take (k + 1)).reverse.length = k + 1 := by rw [List.length_reverse, length_take, length_drop]; exact min_eq_left (le_sub_one_of_lt hl)
     have hdrop : (X :: onto rule k γ0).drop (k + 1) = γ0 := by
       rw [<- hon]; unfold onto; rw [List.drop_append_of_le_length (le_of_eq hlen.symm), drop_of_length_le (le_of_eq hlen)]; rfl
     have htake : (X :: onto rule k γ0).take (k + 1) = ((rule.drop 1).take (k + 1)).reverse := by
       rw [<- hon]; unfold onto; rw [List.take_append_of_le_length (le_of_eq hlen.symm), take_of_length_le (le_of_eq hlen)]
     refine ⟨k + 1, j, le_add_left 1 k, le_of_lt_succ (lt_of_lt_of_le hl h4), rfl, (mt_iff hj).mpr ⟨hl, htake.symm⟩, ?_⟩; rw [hdrop]; refine (ee_iff G hj ?_).mp hi; rintro rfl; have := it_zero_nil G hi; subst this; rcases G.get hj with ⟨_, rfl⟩ | ⟨e, _⟩ | ⟨e, _⟩ | ⟨e, _⟩ | ⟨e, _⟩
     . obtain rfl : k = 0 := Nat.le_zero.mp (le_of_lt_succ (Nat.lt_of_succ_lt_succ hl)); cases h2; exact hg rfl
     all_goals cases e
   . rintro ⟨i, j, h1, h3, rfl, hm, he⟩
     have hj : ∃ rule, rs[j]? = some rule /\ j ≠ 0 := by
       rw [G.eq]; rcases he with ⟨_, rfl | rfl⟩ | ⟨_, rfl | rfl⟩ <;> exact ⟨_, rfl, by decide⟩
     obtain ⟨rule, hj, h0⟩ := hj; have hi := (ee_iff G hj h0).mpr he; obtain ⟨hl, hon⟩ := mt_onto hj hm; obtain ⟨k, rfl⟩ : ∃ k, i = k + 1 := ⟨i - 1, (sub_add_cancel h1).symm⟩; have hX : rule[k + 1]? = some rule[k + 1] := getElem?_eq_getElem hl; rw [onto_succ hX] at hon; refine ⟨rule[k + 1], onto rule k (γ.drop (k + 1)), 8 * j + k, hon, it_onto G.rulesOk.len hj hi k (lt_of_succ_lt hl), (next_at hj (lt_of_lt_of_le (show k < 3 from h3) (by decide))).mpr hX, rfl⟩
theorem ker_iff {γ : List Int} (hg : γ ≠ [257]) (n : Nat) : Ker rs γ n ↔ n ∈ kern rs γ (ee rs (γ.drop 1)) (ee rs (γ.drop 2)) (ee rs (γ.drop 3)) := by
 rw [ker_m G hg]; unfold kern; rw [mem_append, mem_append, mem_part, mem_part, mem_part]; constructor
 . rintro ⟨i, j, h1, h3, e, hm, he⟩; rcases nat4 i (lt_succ_of_le h3) with rfl | rfl | rfl | rfl
   . cases h1
   . exact .inl (.inl ⟨j, e, hm, he⟩)
   . exact .inl (.inr ⟨j, e, hm, he⟩)
   . exact .inr ⟨j, e, hm, he⟩
 . rintro ((⟨j, e, hm, he⟩ | ⟨j, e, hm, he⟩) | ⟨j, e, hm, he⟩)
   . exact ⟨1, j, by decide, by decide, e, hm, he⟩
   . exact ⟨2, j, by decide, by decide, e, hm, he⟩
   . exact ⟨3, j, by decide, by decide, e, hm, he⟩
end
end
section
noncomputable abbrev allE : List (Bool × Bool) := [(false, false), (false, true), (true, false), (true, true)]
theorem mem_allE (e : Bool × Bool) : e ∈ allE := by obtain ⟨x, y⟩ := e; cases x <;> cases y <;> simp
structure Opts where
 l3 : List (Bool × Bool)
 a2 : List (Bool × Bool)
 b2 : List (Bool × Bool)
 es : List (Bool × Bool)
noncomputable def cdA (rs : List (List Int)) (o : Opts) : List (List Nat) := o.l3.flatMap fun e3 => o.a2.flatMap fun e2 => allE.map fun e1 => kern rs (wrd rs 2 3) e1 e2 e3
noncomputable def cdB (rs : List (List Int)) (o : Opts) : List (List Nat) := o.b2.flatMap fun e2 => allE.map fun e1 => kern rs (wrd rs 4 3) e1 e2 (false, true)
noncomputable def cdC (rs : List (List Int)) (o : Opts) : List (List Nat) := [1, 2].flatMap fun j => o.es.flatMap fun e2 => allE.map fun e1 => kern rs (wrd rs j 2) e1 e2 (false, false)
noncomputable def cdD (rs : List (List Int)) : List (List Nat) := [3, 4].flatMap fun j => allE.map fun e1 => kern rs (wrd rs j 2) e1 (false, true) (false, false)
noncomputable def cdE (rs : List (List Int)) (o : Opts) : List (List Nat) := [1, 2].flatMap fun j => o.es.map fun e1 => kern rs (wrd rs j 1) e1 (false, false) (false, false)
noncomputable def cdF (rs : List (List Int)) : List (List Nat) := [3, 4].map fun j => kern rs (wrd rs j 1) (false, true) (false, false) (false, false)
noncomputable def codes (rs : List (List Int)) (o : Opts) : List (List Nat) := cdA rs o ++ (cdB rs o ++ (cdC rs o ++ (cdD rs ++ (cdE rs o ++ cdF rs))))
theorem codes_iff {rs : List (List Int)} {o : Opts} {x : List Nat} : x ∈ codes rs o ↔ x ∈ cdA rs o \/ x ∈ cdB rs o \/ x ∈ cdC rs o \/ x ∈ cdD rs \/ x ∈ cdE rs o \/ x ∈ cdF rs := by
 unfold codes; rw [mem_append, mem_append, mem_append, mem_append, mem_append]
structure OptsOk (rs : List (List Int)) (o : Opts) : Prop where
 l3 : ∀ γ, (ee rs (γ.drop 3)).1 = true -> mt rs γ 3 2 = true -> ∃ e ∈ o.l3, part rs γ 3 (ee rs (γ.drop 3)) = part rs γ 3 e
 a2 : ∀ γ, (ee rs (γ.drop 3)).1 = true -> mt rs γ 3 2 = true -> ∃ e ∈ o.a2, part rs γ 2 (ee rs (γ.drop 2)) = part rs γ 2 e
 b2 : ∀ γ, mt rs γ 3 4 = true -> ∃ e ∈ o.b2, part rs γ 2 (ee rs (γ.drop 2)) = part rs γ 2 e
 es : ∀ γ, (ee rs γ).1 = true -> ee rs γ ∈ o.es
section
variable {a b : Int} {rs : List (List Int)} {b1 f1 b2 f2 : List Int}
theorem kern3 {γ δ : List Int} (h : γ.take 3 = δ) (e1 : Bool × Bool) {e2 e3 d2 d3 : Bool × Bool} (h2 : part rs γ 2 e2 = part rs γ 2 d2) (h3 : part rs γ 3 e3 = part rs γ 3 d3) : kern rs γ e1 e2 e3 = kern rs δ e1 d2 d3 := by
 subst h; unfold kern; rw [part_take γ (show 1 <= 3 by decide), part_take γ (show 2 <= 3 by decide), part_take γ (le_refl 3), h2, h3]
theorem kern2 {γ δ : List Int} (h : γ.take 2 = δ) (e1 : Bool × Bool) {e2 e3 d2 : Bool × Bool} (h2 : part rs γ 2 e2 = part rs γ 2 d2) (h3 : part rs γ 3 e3 = []) : kern rs γ e1 e2 e3 = kern rs δ e1 d2 (false, false) := by
 subst h; unfold kern; rw [part_take γ (show 1 <= 2 by decide), part_take γ (le_refl 2), h2, h3]; rfl
theorem kern1 {γ δ : List Int} (h : γ.take 1 = δ) (e1 : Bool × Bool) {e2 e3 : Bool × Bool} (h2 : part rs γ 2 e2 = []) (h3 : part rs γ 3 e3 = []) : kern rs γ e1 e2 e3 = kern rs δ e1 (false, false) (false, false) := by
 subst h; unfold kern; rw [part_take γ (le_refl 1), h2, h3]; rfl
theorem part_noS {γ : List Int} {i : Nat} {e : Bool × Bool} (h : ¬ (e.1 = true /\ (mt rs γ i 1 = true \/ mt rs γ i 2 = true))) : part rs γ i e = part rs γ i (false, e.2) := by
 unfold part
 congr 2
 by_cases h1 : e.1 = true
 . rw [if_pos h1]; have : ¬ (mt rs γ i 1 = true \/ mt rs γ i 2 = true) := fun q => h ⟨h1, q⟩; rw [not_or] at this; simp [this]
 . rw [if_neg h1]; rfl
theorem part_nil {γ : List Int} {i : Nat} {e : Bool × Bool} (h : ¬ (e.1 = true /\ (mt rs γ i 1 = true \/ mt rs γ i 2 = true))) (h2 : ¬ (e.2 = true /\ (mt rs γ i 3 = true \/ mt rs γ i 4 = true))) : part rs γ i e = [] := by
 refine List.eq_nil_iff_forall_not_mem.mpr fun n hn => ?_; obtain ⟨j, _, hm, he⟩ := mem_part.mp hn; rcases he with ⟨h3, rfl | rfl⟩ | ⟨h3, rfl | rfl⟩
 . exact h ⟨h3, .inl hm⟩
 . exact h ⟨h3, .inr hm⟩
 . exact h2 ⟨h3, .inl hm⟩
 . exact h2 ⟨h3, .inr hm⟩
variable (G : Gr a b rs b1 f1 b2 f2)
include G
theorem mt3 {γ : List Int} : mt rs γ 3 1 = false /\ mt rs γ 3 3 = false := by
 have l1 := G.lb1; have l2 := G.lb2; have r1 : rs[1]? = some (257 :: b1) := by rw [G.eq]; rfl
 have r3 : rs[3]? = some (258 :: b2) := by rw [G.eq]; rfl
 constructor
 . refine Bool.eq_false_iff.mpr fun h => ?_; exact absurd (lt_of_lt_of_le ((mt_iff r1).mp h).1 (succ_le_succ l1)) (by decide)
 . refine Bool.eq_false_iff.mpr fun h => ?_; exact absurd (lt_of_lt_of_le ((mt_iff r3).mp h).1 (succ_le_succ l2)) (by decide)
theorem code_of {o : Opts} (O : OptsOk rs o) {γ : List Int} {n : Nat} (hn : n ∈ kern rs γ (ee rs (γ.drop 1)) (ee rs (γ.drop 2)) (ee rs (γ.drop 3))) :
   kern rs γ (ee rs (γ.drop 1)) (ee rs (γ.drop 2)) (ee rs (γ.drop 3)) ∈ codes rs o := by
 obtain ⟨m1, m3⟩ := mt3 (γ := γ) G; have tt : ∀ e : Bool × Bool, e.2 = true -> (false, e.2) = (false, true) := fun e h => by rw [h]
 have j1 : (1 : Nat) ∈ [1, 2] := mem_cons_self; have j2 : (2 : Nat) ∈ [1, 2] := mem_cons_of_mem _ mem_cons_self; have j3 : (3 : Nat) ∈ [3, 4] := mem_cons_self; have j4 : (4 : Nat) ∈ [3, 4] := mem_cons_of_mem _ mem_cons_self; rw [codes_iff]; by_cases A3 : (ee rs (γ.drop 3)).1 = true /\ mt rs γ 3 2 = true
 . obtain ⟨e3, h3, p3⟩ := O.l3 γ A3.1 A3.2; obtain ⟨e2, h2, p2⟩ := O.a2 γ A3.1 A3.2; rw [kern3 (mt_wrd A3.2) _ p2 p3]; exact .inl (List.mem_flatMap.mpr ⟨e3, h3, List.mem_flatMap.mpr ⟨e2, h2, mem_map_of_mem (mem_allE _)⟩⟩)
 have A3' : ¬ ((ee rs (γ.drop 3)).1 = true /\ (mt rs γ 3 1 = true \/ mt rs γ 3 2 = true)) := by
   rintro ⟨h1, h2 | h2⟩
   . rw [m1] at h2; cases h2
   . exact A3 ⟨h1, h2⟩
 by_cases B3 : (ee rs (γ.drop 3)).2 = true /\ mt rs γ 3 4 = true
 . obtain ⟨e2, h2, p2⟩ := O.b2 γ B3.2; rw [kern3 (d3 := (false, true)) (mt_wrd B3.2) _ p2 (by rw [part_noS A3', tt _ B3.1])]; exact .inr (.inl (List.mem_flatMap.mpr ⟨e2, h2, mem_map_of_mem (mem_allE _)⟩))
 have p3 : part rs γ 3 (ee rs (γ.drop 3)) = [] := part_nil A3' (by
   rintro ⟨h1, h2 | h2⟩
   . rw [m3] at h2; cases h2
   . exact B3 ⟨h1, h2⟩)
 by_cases A2 : (ee rs (γ.drop 2)).1 = true /\ (mt rs γ 2 1 = true \/ mt rs γ 2 2 = true)
 . have he := O.es _ A2.1; obtain ⟨j, hj, hm⟩ : ∃ j ∈ [1, 2], mt rs γ 2 j = true := A2.2.elim (fun h => ⟨1, j1, h⟩) fun h => ⟨2, j2, h⟩; rw [kern2 (mt_wrd hm) _ rfl p3]; exact .inr (.inr (.inl (List.mem_flatMap.mpr ⟨j, hj, List.mem_flatMap.mpr ⟨_, he, mem_map_of_mem (mem_allE _)⟩⟩)))
 by_cases B2 : (ee rs (γ.drop 2)).2 = true /\ (mt rs γ 2 3 = true \/ mt rs γ 2 4 = true)
 . obtain ⟨j, hj, hm⟩ : ∃ j ∈ [3, 4], mt rs γ 2 j = true := B2.2.elim (fun h => ⟨3, j3, h⟩) fun h => ⟨4, j4, h⟩; rw [kern2 (d2 := (false, true)) (mt_wrd hm) _ (by rw [part_noS A2, tt _ B2.1]) p3]; exact .inr (.inr (.inr (.inl (List.mem_flatMap.mpr ⟨j, hj, mem_map_of_mem (mem_allE _)⟩))))
 have p2 : part rs γ 2 (ee rs (γ.drop 2)) = [] := part_nil A2 B2; by_cases A1 : (ee rs (γ.drop 1)).1 = true /\ (mt rs γ 1 1 = true \/ mt rs γ 1 2 = true)
 . have he := O.es _ A1.1; obtain ⟨j, hj, hm⟩ : ∃ j ∈ [1, 2], mt rs γ 1 j = true := A1.2.elim (fun h => ⟨1, j1, h⟩) fun h => ⟨2, j2, h⟩; rw [kern1 (mt_wrd hm) _ p2 p3]; exact .inr (.inr (.inr (.inr (.inl (List.mem_flatMap.mpr ⟨j, hj, mem_map_of_mem he⟩)))))
 by_cases B1 : (ee rs (γ.drop 1)).2 = true /\ (mt rs γ 1 3 = true \/ mt rs γ 1 4 = true)
 . obtain ⟨j, hj, hm⟩ : ∃ j ∈ [3, 4], mt rs γ 1 j = true := B1.2.elim (fun h => ⟨3, j3, h⟩) fun h => ⟨4, j4, h⟩
   have e : kern rs γ (ee rs (γ.drop 1)) (ee rs (γ.drop 2)) (ee rs (γ.drop 3)) = kern rs γ (false, true) (ee rs (γ.drop 2)) (ee rs (γ.drop 3)) := by
     unfold kern; rw [part_noS A1, tt _ B1.1]
   rw [e, kern1 (mt_wrd hm) _ p2 p3]; exact .inr (.inr (.inr (.inr (.inr (mem_map_of_mem (f := fun j => kern rs (wrd rs j 1) (false, true) (false, false) (false, false)) hj)))))
 exfalso; have p1 : part rs γ 1 (ee rs (γ.drop 1)) = [] := part_nil A1 B1; unfold kern at hn; rw [p1, p2, p3] at hn; cases hn
theorem states_le {o : Opts} (O : OptsOk rs o) {syms : List Int} {fs : List (List Nat)} (hnd : fs.Nodup) (h : ∀ s ∈ fs, StateR rs syms s) : fs.length <= (codes rs o).length + 2 := by
 obtain ⟨K0, hK⟩ : ∃ K0 : List Nat, ∀ s, IsSt rs [257] s -> Closed rs K0 s := by
   by_cases hc : ∃ s, IsSt rs [257] s
   . obtain ⟨s, hs⟩ := hc; refine ⟨s, fun t ht => ?_⟩; obtain rfl := isSt_uniq hs ht; exact closed_self hs
   . exact ⟨[], fun s hs => absurd ⟨s, hs⟩ hc⟩
 refine count_codes (rs := rs) (U := [0] :: K0 :: codes rs o) hnd fun s hs => ?_; obtain ⟨γ, hS, _, n, hn⟩ := stateR_word (h s hs); by_cases h0 : γ = []
 . subst h0; refine ⟨[0], mem_cons_self, ⟨hS.sorted, fun n => ?_⟩⟩; rw [hS.mem]; refine ⟨fun hi => it_reach hi _ (fun _ => mem_cons_self) (fun _ _ _ e => by cases e), reach_it fun n hn => ?_⟩; rw [List.mem_singleton.mp hn]; exact .zero
 by_cases h1 : γ = [257]
 . subst h1; exact ⟨K0, mem_cons_of_mem _ mem_cons_self, hK s hS⟩
 obtain ⟨X, γ', rfl⟩ : ∃ X γ', γ = X :: γ' := by cases γ with | nil => exact absurd rfl h0 | cons X γ => exact ⟨X, γ, rfl⟩
 obtain ⟨m, hm, hx⟩ := it_last hn _ _ rfl; have hk := (ker_iff G h1 (m + 1)).mp ⟨X, γ', m, rfl, hm, hx, rfl⟩; exact ⟨_, mem_cons_of_mem _ (mem_cons_of_mem _ (code_of G O hk)), closed_of_ker hS h0 (ker_iff G h1)⟩
theorem noT (h : ∀ k : Nat, f1[k]? ≠ some 258) {γ : List Int} : (ee rs γ).2 = false := by
 have key : ∀ γ n, It rs γ n -> n < 24 := by
   intro γ n h'
   induction h' with
   | zero => decide
   | @move γ n X h1 h2 ih =>
     rcases lt_or_ge (n + 1) 24 with q | q
     . exact q
     . obtain rfl : n = 23 := le_antisymm (le_of_lt_succ ih) (Nat.le_of_succ_le_succ q)
       have q : f1[7]? = some X := G.next h2
       exact absurd (lt_of_lt_of_le (List.getElem?_eq_some_iff.mp q).1 G.lf1) (by decide)
   | @step γ n m X h1 h2 h3 h4 ih =>
     rcases G.adds h4 with ⟨_, e⟩ | ⟨_, e | e⟩ | ⟨hX, _⟩
     . rw [e]; decide
     . rw [e]; decide
     . rw [e]; decide
     . have q := G.next h2
       rw [hX] at q; unfold nx at q; have d3 : n / 8 < 3 := Nat.div_lt_of_lt_mul ih; generalize n / 8 = d at q d3; rcases nat4 d (Nat.lt_succ_of_lt d3) with rfl | rfl | rfl | rfl
       . exact absurd (List.mem_singleton.mp (mem_of_getElem? q)) (by decide)
       . exact absurd (G.tb1' q) (by decide)
       . exact absurd q (h _)
       . exact absurd d3 (by decide)
 unfold ee; simp only [decide_eq_false_iff_not]; exact fun h1 => lt_irrefl _ (key _ _ h1)
theorem firstT (h : f1[0]? = some 258) {γ : List Int} (h1 : (ee rs γ).1 = true) : ee rs γ = (true, true) := by
 unfold ee at h1 ⊢; simp only [decide_eq_true_eq] at h1; have h2 := (it_S G).mp h1; have r2 : rs[2]? = some (257 :: f1) := by rw [G.eq]; rfl
 have r3 : rs[3]? = some (258 :: b2) := by rw [G.eq]; rfl
 have h3 : It rs γ 24 := it_open (k := 0) (j := 2) (i := 3) G.rulesOk.len r2 h2 (X := 258) h (by decide) r3 rfl; simp [h1, h3]
theorem noS2 (hT : ∃ k : Nat, f1[k]? = some 258) (h0 : f1[0]? ≠ some 258) {γ : List Int} (hm : mt rs γ 3 2 = true) : ¬ (mt rs γ 2 1 = true \/ mt rs γ 2 2 = true) := by
 have r1 : rs[1]? = some (257 :: b1) := by rw [G.eq]; rfl
 have r2 : rs[2]? = some (257 :: f1) := by rw [G.eq]; rfl
 obtain ⟨h1, h2⟩ := (mt_iff r2).mp hm; have l3 := G.lf1; have ha := G.ha; have hb := G.hb; have e3 : f1.length = 3 := le_antisymm l3 (le_of_lt_succ h1); obtain ⟨x, y, z, rfl⟩ := len3 e3
 . have h3 : γ.take 2 = [z, y] := by
     rw [show γ.take 2 = (γ.take 3).take 2 by rw [List.take_take]; rfl, <- h2]; rfl
   have hx : x ≠ 258 := fun e => h0 (by rw [e]; rfl); rintro (h | h)
   . obtain ⟨h4, h5⟩ := (mt_iff r1).mp h; rw [h3] at h5
     have hmem : ∀ v ∈ [z, y], v < 256 := by
       intro v hv; rw [<- h5] at hv; have := mem_of_mem_take (List.mem_reverse.mp hv); rcases G.tb1 v this with e | e <;> rw [e]
       . exact Int.lt_trans ha.2 (by decide)
       . exact Int.lt_trans hb.2 (by decide)
     have hy := hmem y (mem_cons_of_mem _ mem_cons_self); have hz := hmem z mem_cons_self; obtain ⟨k, hk⟩ := hT; rcases List.mem_cons.mp (mem_of_getElem? hk) with e | q
     . exact hx e.symm
     rcases List.mem_cons.mp q with e | q
     . exact absurd (e ▸ hy) (by decide)
     . exact absurd (List.mem_singleton.mp q ▸ hz) (by decide)
   . obtain ⟨h4, h5⟩ := (mt_iff r2).mp h; rw [h3] at h5; have h6 : [y, x] = [z, y] := h5; cases h6; obtain ⟨k, hk⟩ := hT; rcases List.mem_cons.mp (mem_of_getElem? hk) with e | q
     . exact hx e.symm
     rcases List.mem_cons.mp q with e | q
     . exact hx e.symm
     . exact hx (List.mem_singleton.mp q).symm
theorem Gr.states {syms : List Int} {fs : List (List Nat)} (hnd : fs.Nodup) (h : ∀ s ∈ fs, StateR rs syms s) : fs.length <= 63 := by
 have r2 : rs[2]? = some (257 :: f1) := by rw [G.eq]; rfl
 have r4 : rs[4]? = some (258 :: f2) := by rw [G.eq]; rfl
 by_cases hT : ∃ k : Nat, f1[k]? = some 258
 . by_cases h0 : f1[0]? = some 258
   . have hs := states_le G (o := ⟨[(true, true)], allE, allE, [(true, true)]⟩) ⟨fun γ h1 _ => ⟨_, List.mem_singleton.mpr (firstT G h0 h1), rfl⟩, fun γ _ _ => ⟨_, mem_allE _, rfl⟩, fun γ _ => ⟨_, mem_allE _, rfl⟩, fun γ h1 => List.mem_singleton.mpr (firstT G h0 h1)⟩ hnd h; have : (codes rs ⟨[(true, true)], allE, allE, [(true, true)]⟩).length = 52 := rfl; exact le_trans hs (by rw [this]; decide)
   . have hes : ∀ γ, (ee rs γ).1 = true -> ee rs γ ∈ [(true, false), (true, true)] := by
       intro γ h1; rcases he : ee rs γ with ⟨x, y⟩; rw [he] at h1; obtain rfl : x = true := h1; cases y <;> simp
     have ha2 : ∀ γ, mt rs γ 3 2 = true -> ∃ e ∈ [(false, false), (false, true)], part rs γ 2 (ee rs (γ.drop 2)) = part rs γ 2 e := by
       intro γ hm; refine ⟨(false, (ee rs (γ.drop 2)).2), ?_, part_noS fun q => noS2 G hT h0 hm q.2⟩; cases (ee rs (γ.drop 2)).2 <;> simp
     by_cases hf : f1 = f2
     . have hs := states_le G (o := ⟨[(true, false), (true, true)], [(false, false), (false, true)], [(false, false), (false, true)], [(true, false), (true, true)]⟩)
         ⟨fun γ h1 _ => ⟨_, hes _ h1, rfl⟩, fun γ _ hm => ha2 γ hm, fun γ hm => ha2 γ (by rw [mt_iff r4] at hm; rw [mt_iff r2, hf]; exact hm), hes⟩ hnd h
       have : (codes rs ⟨[(true, false), (true, true)], [(false, false), (false, true)], [(false, false), (false, true)], [(true, false), (true, true)]⟩).length = 54 := rfl; exact le_trans hs (by rw [this]; decide)
     . have hs := states_le G (o := ⟨[(true, false)], [(false, false), (false, true)], allE, [(true, false), (true, true)]⟩)
         ⟨fun γ h1 hm => ⟨_, List.mem_singleton.mpr rfl, ?_⟩, fun γ _ hm => ha2 γ hm, fun γ _ => ⟨_, mem_allE _, rfl⟩, hes⟩ hnd h
       . have : (codes rs ⟨[(true, false)], [(false, false), (false, true)], allE, [(true, false), (true, true)]⟩).length = 54 := rfl; exact le_trans hs (by rw [this]; decide)
       . have h4 : mt rs γ 3 4 = false := Bool.eq_false_iff.mpr fun q => hf (by
           obtain ⟨q1, q2⟩ := (mt_iff r4).mp q; obtain ⟨q3, q4⟩ := (mt_iff r2).mp hm; have l3 := G.lf1; have l4 := G.lf2; rw [<- q2] at q4; have := List.reverse_inj.mp q4; simp only [List.drop_succ_cons, List.drop_zero] at this; rwa [take_of_length_le l3, take_of_length_le l4] at this)
         unfold part
         congr 2
         . rw [h1]
         . have h3 := (mt3 (γ := γ) G).2; simp [h3, h4]
 . have hn : ∀ γ, (ee rs γ).2 = false := fun γ => noT G (fun k hk => hT ⟨k, hk⟩)
   have hes : ∀ γ, (ee rs γ).1 = true -> ee rs γ ∈ [(true, false)] := by
     intro γ h1; have h2 := hn γ; rcases he : ee rs γ with ⟨x, y⟩; rw [he] at h1 h2; obtain rfl : x = true := h1; obtain rfl : y = false := h2; exact List.mem_singleton.mpr rfl
   have hs := states_le G (o := ⟨[(true, false)], [(false, false), (true, false)], allE, [(true, false)]⟩)
     ⟨fun γ h1 _ => ⟨_, hes _ h1, rfl⟩, fun γ _ _ => ⟨_, ?_, rfl⟩, fun γ _ => ⟨_, mem_allE _, rfl⟩, hes⟩ hnd h
   . have : (codes rs ⟨[(true, false)], [(false, false), (true, false)], allE, [(true, false)]⟩).length = 44 := rfl; exact le_trans hs (by rw [this]; decide)
   . have h2 := hn (γ.drop 2); rcases he : ee rs (γ.drop 2) with ⟨x, y⟩; rw [he] at h2; obtain rfl : y = false := h2; cases x <;> simp
end
end
section
section
variable {C : Cx} {A : Around} {σ : St} (X : Wd C) (I : Ki C)
theorem perm_pick {α : Type} {l l' : List α} (is : List Nat) {n : Nat} (h : l' = is.filterMap (fun i => l[i]?)) (hn : l.length = n) (hp : is.Perm (List.range n)) : l'.Perm l := by
 have h1 := hp.filterMap (fun i => l[i]?); rw [<- h] at h1
 have h2 : ∀ (l : List α) (k : Nat) (m : List α), (range' k l.length).filterMap (fun i => (m ++ l)[i]?) = l \/ m.length ≠ k := by
   intro l
   induction l with
   | nil => intro k m; exact .inl rfl
   | cons a l ih =>
     intro k m; by_cases hm : m.length = k
     . refine .inl ?_; rw [length_cons, List.range'_succ, List.filterMap_cons_some (b := a) (by rw [<- hm, getElem?_append_right (le_refl _), sub_self]; rfl)]; have := (ih (k + 1) (m ++ [a])).resolve_right (fun h => h (by rw [length_append, hm]; rfl)); rw [append_assoc] at this; exact congrArg _ this
     . exact .inr hm
 have h3 : (range' 0 l.length).filterMap (fun i => l[i]?) = l := (h2 l 0 []).resolve_right (fun h => h rfl); rw [hn, <- List.range_eq_range'] at h3; rw [h3] at h1; exact h1
theorem Wp.focus {α β : Type} {R : Pool -> α -> β -> Prop} {C : Cx} {A : Around} {t : Sem α} {σ : St} {Q : β -> St -> Prop} {L : Addr} {m m' : List (Str × Option AV)} {pre front pre' front' : St} (is js : List Nat) {n k : Nat} (hm : m' = is.filterMap (fun i => m[i]?)) (hn : m.length = n) (hp : is.Perm (List.range n))
   (he : pre' ++ front' = js.filterMap (fun i => (pre ++ front)[i]?)) (hk : (pre ++ front).length = k) (hq : js.Perm (List.range k)) (h : Wp R C A t (pre' ++ (L, .ns m') :: (front' ++ σ)) Q) : Wp R C A t (pre ++ (L, .ns m) :: (front ++ σ)) Q := by
 intro P s S; have hmp := perm_pick is hm hn hp; have hep := perm_pick js he hk hq
 have S1 : Sat C P (pre ++ (L, .ns m') :: (front ++ σ)) { s with heap := s.heap, toks := s.toks } := Sat.at (e := .ns m) S s.toks (fun b o _ e => e) (by
   obtain ⟨nd, mm, h1, h2⟩ := S.ents (L, .ns m) (mem_append_right _ mem_cons_self); exact ⟨(hmp.map _).nodup_iff.mpr nd, mm, h1, fun x av hx => h2 x av (hmp.mem_iff.mp hx)⟩)
 refine h P s (S1.perm ?_); refine List.perm_middle.trans (((List.Perm.cons _ ?_)).trans List.perm_middle.symm); rw [<- append_assoc, <- append_assoc]; exact hep.append_right σ
include X I in
theorem law_call (K : Sk X) (T : Tb X) (TK : Tk C) (htk : ∀ i < 48, ∃ t, TK.f (opTexts.getD i Str.empty) = some (.int (7 + i) t)) (htn : TK.f "R" = none /\ TK.f "S" = none /\ TK.f "T" = none /\ TK.f "end" = none)
   (hA : AOk 21 A) (hfr : A.frames = some []) {d : AV} {ns : List Int} (hd : d = .list (ns.map AV.int) \/ d = .wlist (ns.map AV.int)) (hl : ns.length <= 63)
   (hTM : (T.tM, .tab (alM X)) ∈ σ) (hTL : (T.tL, .tab (alL X)) ∈ σ) {Q : AV -> St -> Prop} (hQ : ∀ τ, (∀ p ∈ σ, p ∈ τ) -> Q (.bool true) τ) : CallV C A (.fn X.law) [d] [] σ Q := by
 have hf' : DefFd X.law _ _ _ := X.d_law.1; obtain ⟨f1, f2, f3, f4, f5, f6⟩ := hf'; have hb := X.d_law.2; refine callV_cellsF (pn := ["script"]) (cn := ["sizes", "shelf", "found", "comp", "last", "line", "states", "size", "layer", "fitting", "moves", "read", "sign", "symbols"]) (m0 := [("script", some d), ("drawn", none), ("rules", none), ("text", none), ("place", none), ("symbol", none), ("ends", none), ("told", none), ("way", none), ("before", none), ("up", none), ("down", none), ("search", none), ("refused", none), ("due", none), ("table", none), ("step", none), ("open_ones", none), ("rule", none)]) X.G hA hfr f1 (f3 ▸ scopeOk_of (by decide)) f4 f5 f6 (f3 ▸ by decide) (by decide) (f3 ▸ by decide) ?_ rfl (f3 ▸ by decide) (by decide) (show (["script", "drawn", "rules", "text", "place", "symbol", "ends", "told", "way", "before", "up", "down", "search", "refused", "due", "table", "step", "open_ones", "rule"] : List Str).Nodup by decide) ?_ ?_
 . intro vs hvs; obtain ⟨v, rfl⟩ := len1 hvs; generalize X.law = fd at *; obtain ⟨_, _, _, _, _, _, _, _, _, _, _, _, _, _, _⟩ := fd; obtain ⟨b1, b2⟩ := hb; dsimp only at f2 b1 b2; subst f2 b1 b2; rfl
 . intro x av hx; rw [f3]; simp only [mem_cons, Prod.mk.injEq, not_mem_nil, or_false, Option.some.injEq, reduceCtorEq, and_false, or_self] at hx; obtain ⟨rfl, rfl⟩ := hx; exact ⟨by decide, .head _⟩
 . intro L A' env ca hca hA' hfr' hff hE hcode hqual; rw [f3] at hE; obtain ⟨c1, c2, c3, c4, c5, c6, c7, c8, c9, c10, c11, c12, c13, c14⟩ := len14 hca; clear f1 f2 f3 f4 f5 f6 hb; show Ef C A' (execs lawBody env) ((L, .ns [("script", some d), ("drawn", none), ("rules", none), ("text", none), ("place", none), ("symbol", none), ("ends", none), ("told", none), ("way", none), ("before", none), ("up", none), ("down", none), ("search", none), ("refused", none), ("due", none), ("table", none), ("step", none), ("open_ones", none), ("rule", none)]) :: (c1, .cell none) :: (c2, .cell none) :: (c3, .cell none) :: (c4, .cell none) :: (c5, .cell none) :: (c6, .cell none) :: (c7, .cell none) :: (c8, .cell none) :: (c9, .cell none) :: (c10, .cell none) :: (c11, .cell none) :: (c12, .cell none) :: (c13, .cell none) :: (c14, .cell none) :: σ) (RetQ Q); replace hE : EnvIs env L lawNames [("sizes", c1), ("shelf", c2), ("found", c3), ("comp", c4), ("last", c5), ("line", c6), ("states", c7), ("size", c8), ("layer", c9), ("fitting", c10), ("moves", c11), ("read", c12), ("sign", c13), ("symbols", c14)] := hE; refine Wp.focus (n := 19) (k := 14) (pre := []) (front := [_, _, _, _, _, _, _, _, _, _, _, _, _, _]) (pre' := []) (front' := [_, _, _, _, _, _, _, _, _, _, _, _, _, _]) (m' := [_, _, _, _, _, _, _, _, _, _, _, _, _, _, _, _, _, _, _]) [0, 1, 2, 3, 6, 7, 4, 5, 8, 9, 10, 11, 12, 13, 14, 15, 16, 17, 18] [11, 13, 0, 1, 2, 3, 4, 5, 6, 7, 8, 9, 10, 12] rfl rfl (by decide) rfl rfl (by decide) ?_; refine law_1 X I TK htk htn hA' hE (by walk_at "m") (by walk_at "m") hd hl fun d0 d1 d2 d3 d4 a b o0 o1 o2 o3 hD ha hb => ?_; have h0 : ∀ x ∈ [d0, d1, d2, d3, d4], 0 <= x := fun x hx => (hD.low x hx).1; have hd0 := h0 d0 (by simp); have hd4 := h0 d4 (by simp); have ha' : 7 <= a /\ a < 55 := ha ▸ sy48 _; have hb' : 7 <= b /\ b < 55 := hb ▸ sy48 _; have hab : a ≠ b := by lia
   obtain ⟨b1, f1, b2, f2, G⟩ := gram_gr (d1 := d1) (d2 := d2) (d3 := d3) ha' hb' hab; have hlen : (gramR a b d1 d2 d3).length = 5 := rfl; generalize gramR a b d1 d2 d3 = rs at G hlen ⊢; refine Wp.focus (n := 19) (k := 14) (pre := []) (front := [_, _, _, _, _, _, _, _, _, _, _, _, _, _]) (pre' := []) (front' := [_, _, _, _, _, _, _, _, _, _, _, _, _, _]) (m' := [_, _, _, _, _, _, _, _, _, _, _, _, _, _, _, _, _, _, _]) [1, 5, 8, 9, 10, 11, 0, 2, 3, 4, 6, 7, 12, 13, 14, 15, 16, 17, 18] [2, 3, 4, 5, 12, 13, 1, 0, 6, 7, 8, 9, 10, 11] rfl rfl (by decide) rfl rfl (by decide) ?_; refine law_2 X I K T hA' hE (by walk_at "m") (by walk_at "m") (by walk_at "m") (by walk_at "m") (by walk_at "m") (by walk_at "m") (by walk_at "m") ha' hb' hab hlen G.rulesLen (fun fs h1 h2 => G.states h1 h2) (by walk_at "m") fun w found moves shelf U D hw M => ?_; have hf63 := G.states M.nd M.ok; have hsl : shelf.length = found.length := by have := M.perm.length_eq; rwa [length_mapIdx] at this
   have hne : shelf ≠ [] := by
     obtain ⟨s, h1, _⟩ := M.start; have := (List.getElem?_eq_some_iff.mp h1).1; intro e; rw [e] at hsl; exact ne_of_lt this hsl
   have hst : ∀ s ∈ found, (∀ n ∈ s, n < 64) /\ s.length <= 40 := fun s hs => G.state_lt (M.ok s hs); have hw0 : w ≠ 0 := hw ▸ way_ne d4
   have hw3 : -3 <= w /\ w <= 3 := by
     rw [hw]; unfold wayOf; rcases int4 (emB d4 (n := 4) (by decide)) with h | h | h | h <;> rw [h] <;> decide
   refine Wp.focus (n := 19) (k := 16) (pre := [_, _]) (front := [_, _, _, _, _, _, _, _, _, _, _, _, _, _]) (pre' := []) (front' := [_, _, _, _, _, _, _, _, _, _, _, _, _, _, _, _]) (m' := [_, _, _, _, _, _, _, _, _, _, _, _, _, _, _, _, _, _, _]) [0, 3, 12, 13, 1, 2, 4, 5, 6, 7, 8, 9, 10, 11, 14, 15, 16, 17, 18] [3, 5, 0, 1, 2, 4, 6, 7, 8, 9, 10, 11, 12, 13, 14, 15] rfl rfl (by decide) rfl rfl (by decide) ?_; refine law_3 X I K T hA' hE (by walk_at "m") (by walk_at "m") hfr' hff hcode hqual (by walk_at "m") ?hr hd4 hne (by rw [hsl]; exact hf63) fun o4 => ?_
   case hr => exact (show ("refused" : Str) ∉ (["told", "way", "up", "down", "script", "rules", "text", "ends", "place", "symbol", "due", "table", "step", "open_ones", "rule"] : List Str) by decide)
   refine Wp.focus (n := 19) (k := 16) (pre := []) (front := [_, _, _, _, _, _, _, _, _, _, _, _, _, _, _, _]) (pre' := [_, _]) (front' := [_, _, _, _, _, _, _, _, _, _, _, _, _, _]) (m' := [_, _, _, _, _, _, _, _, _, _, _, _, _, _, _, _, _, _, _]) [12, 6, 7, 0, 1, 2, 3, 4, 5, 8, 9, 10, 11, 13, 14, 15, 16, 17, 18] [2, 3, 4, 5, 0, 1, 6, 7, 8, 9, 10, 11, 12, 13, 14, 15] rfl rfl (by decide) rfl rfl (by decide) ?_; refine law_4 X I K T hA' hE (by walk_at "m") (by walk_at "m") hcode hqual (by walk_at "m") hf63 fun o5 o6 o7 => ?_; refine Wp.focus (n := 19) (k := 14) (pre := []) (front := [_, _, _, _, _, _, _, _, _, _, _, _, _, _]) (pre' := []) (front' := [_, _, _, _, _, _, _, _, _, _, _, _, _, _]) (m' := [_, _, _, _, _, _, _, _, _, _, _, _, _, _, _, _, _, _, _]) [8, 14, 0, 1, 2, 3, 4, 5, 6, 7, 9, 10, 11, 12, 13, 15, 16, 17, 18] [0, 2, 1, 3, 5, 4, 6, 7, 8, 9, 10, 11, 12, 13] rfl rfl (by decide) rfl rfl (by decide) ?_; refine law_5 X I T hA' hE (by walk_at "m") (by walk_at "m") (by walk_at "m") (by walk_at "m") (by walk_at "m") hcode hqual (by walk_at "m") hf63 hw0 hw3 M (fun s hs => (hst s hs).1) (fun s hs => by have := (hst s hs).2; lia) fun o8 => ?_; refine Wp.focus (n := 19) (k := 14) (pre := []) (front := [_, _, _, _, _, _, _, _, _, _, _, _, _, _]) (pre' := []) (front' := [_, _, _, _, _, _, _, _, _, _, _, _, _, _]) (m' := [_, _, _, _, _, _, _, _, _, _, _, _, _, _, _, _, _, _, _]) [11, 1, 15, 0, 2, 3, 4, 5, 6, 7, 8, 9, 10, 12, 13, 14, 16, 17, 18] [10, 11, 12, 2, 13, 5, 6, 0, 1, 3, 4, 7, 8, 9] rfl rfl (by decide) rfl rfl (by decide) ?_; refine law_6 X I (syms := symsOf a b) hA' hE (by walk_at "m") (by walk_at "m") (by walk_at "m") (by walk_at "m") (by walk_at "m") (by walk_at "m") (by walk_at "m") (by omega) G.rulesOk.len (by simp) M.mnd (Gr.moves_len M hf63) hf63 (fun s hs => (hst s hs).2) G.univ (fun As E F => ⟨LayW rs (symsOf a b) found, layW_zero M, fun k lay tab _ L => layW_succ M G.symNd G.symBound L, fun k lay tab hk L => layW_ok G.rulesOk G.inSyms F M hk (G.words hk) L⟩) fun o15 o16 o17 o18 o19 o20 => ?_; refine Wp.focus (n := 19) (k := 14) (pre := []) (front := [_, _, _, _, _, _, _, _, _, _, _, _, _, _]) (pre' := []) (front' := [_, _, _, _, _, _, _, _, _, _, _, _, _, _]) (m' := [_, _, _, _, _, _, _, _, _, _, _, _, _, _, _, _, _, _, _]) [7, 0, 4, 15, 16, 17, 18, 1, 2, 3, 5, 6, 8, 9, 10, 11, 12, 13, 14] [12, 13, 1, 3, 5, 0, 2, 4, 6, 7, 8, 9, 10, 11] rfl rfl (by decide) rfl rfl (by decide) ?_; exact law_7 X I hA' hE (by walk_at "m") (by walk_at "m") (by walk_at "m") (by walk_at "m") (by walk_at "m") (by omega) G.rulesOk.len hf63 (fun s hs => (hst s hs).2) (lin_zero G) (fun k line hk L => lin_step G M hk L) fun τ hτ => ⟨.bool true, τ, rfl, List.Sublist.refl _, hQ τ fun p hp => hτ p (by walk_at "m")⟩
end
end
section
section
variable {h : Heap} {K : Frag}
noncomputable def fdAt (K : Frag) (a : Addr) : FuncData := match K.lookup a with
 | some o => (match o.data with
   | .func fd => fd
   | _ => default)
 | none => default
noncomputable def fnB (K : Frag) (a : Addr) : Bool := match K.lookup a with
 | some o => (match o.data with
   | .func fd => (match fd.code with
     | .ref c => (match K.lookup c with
       | some oc => (match oc.data with
         | .fields vs => (match vs[1]? with
           | some (Value.str q _) => decide (q = fd.qualname)
           | _ => false)
         | _ => false)
       | none => false)
     | _ => false)
   | _ => false)
 | none => false
noncomputable def esAt (K : Frag) (a : Addr) : Array DictEntry := match K.lookup a with
 | some o => (match o.data with
   | .dict es _ => es
   | _ => #[])
 | none => #[]
noncomputable def nAt (K : Frag) (a : Addr) : Nat := match K.lookup a with
 | some o => (match o.data with
   | .dict _ n => n
   | _ => 0)
 | none => 0
noncomputable def refAt (K : Frag) (x : Str) (a : Addr) : Bool := match nsIn K mainGlobals x with
 | some (some (.ref b)) => b == a
 | _ => false
noncomputable def intAt (K : Frag) (x : Str) (i : Int) : Bool := match nsIn K mainGlobals x with
 | some (some (.int k _)) => k == i
 | _ => false
noncomputable def freeAt (K : Frag) (x : Str) : Bool := match nsIn K mainGlobals x with
 | some none => true
 | _ => false
noncomputable def strKeysB (es : List DictEntry) : Bool := es.all fun e => match e.key with
 | .str _ _ => true
 | _ => false
noncomputable def seekB (K : Frag) (a : Addr) : Bool := match (fdAt K a).defaults with
 | .ref T => (match K.lookup T with
   | some o => (match o.data with
     | .seq vs _ => (match vs.toList with
       | [.int i _, .none] => i == 0
       | _ => false)
     | _ => false)
   | none => false)
 | _ => false
noncomputable def seekK (K : Frag) (a : Addr) : Bool := match (fdAt K a).kwdefaults with
 | .ref D => (match K.lookup D with
   | some o => (match o.data with
     | .dict es _ => strKeysB es.toList && (match nsFind es "key" with
       | some .none => true
       | _ => false)
     | _ => false)
   | none => false)
 | _ => false
noncomputable def tokB (K : Frag) (i : Nat) : Bool := match nsIn K 15 (opTexts.getD i Str.empty) with
 | some (some (.int k _)) => k == 7 + i
 | _ => false
noncomputable def P0 (h : Heap) : Pool := fun a => if a = 135 \/ a = 154 then none else h.get? a
theorem p0_get {a : Addr} {o : Obj} (h1 : a ≠ 135) (h2 : a ≠ 154) (e : h.get? a = some o) : P0 h a = some o := by
 unfold P0; rw [if_neg (not_or.mpr ⟨h1, h2⟩)]; exact e
set_option tactic.hygienic true in
theorem p0_of {a : Addr} {o : Obj} (e : P0 h a = some o) : a ≠ 135 /\ a ≠ 154 /\ h.get? a = some o := by
 unfold P0 at e; split at e
 . cases e
 . rename_i hn
   exact ⟨(not_or.mp hn).1, (not_or.mp hn).2, e⟩
set_option tactic.hygienic true in
theorem vr_fn {P : Pool} (hK : ∀ a o, K.lookup a = some o -> P a = some o) {a : Addr} (e : fnB K a = true) : VR P (.ref a) (.fn (fdAt K a)) := by
 unfold fnB at e; split at e
 . rename_i o ho
   split at e
   . rename_i fd hfd
     have e1 : fdAt K a = fd := by unfold fdAt; rw [ho]; dsimp only; rw [hfd]
     rw [e1]; split at e
     . rename_i c hc
       split at e
       . rename_i oc hoc
         split at e
         . rename_i vs hvs
           split at e
           . rename_i q t hq
             refine .fn (hK _ _ ho) hfd ⟨c, oc, vs, t, hc, hK _ _ hoc, hvs, ?_⟩; rw [hq, of_decide_eq_true e]
           . cases e
         . cases e
       . cases e
     . cases e
   . cases e
 . cases e
set_option tactic.hygienic true in
theorem ns_K {a : Addr} {m : Str -> Option Value} {x : Str} {r : Option Value} (X : K.In h) (G : h.Ns a m) (e : nsIn K a x = some r) : m x = r := by
 obtain ⟨o, es, ep, ho, hd, _, hf⟩ := G; unfold nsIn at e; split at e
 . rename_i c d es' n' sl q
   have := X _ _ q; rw [ho] at this; cases this; cases hd; split at e
   . rename_i en he
     cases e; rw [<- hf]; unfold nsFind findBy; rw [<- Array.find?_toList, he]; rfl
   . rename_i he
     split at e
     . cases e
     . cases e; rw [<- hf]; unfold nsFind findBy; rw [<- Array.find?_toList, he]; rfl
 . cases e
noncomputable abbrev refL : List (Str × Addr) := [(("ISTERMINAL" : Str), (24 : Addr)), ("ISNONTERMINAL", 31), ("ISEOF", 38), ("insort_right", 47), ("bisect_right", 56), ("insort_left", 65), ("bisect_left", 74), ("TupleComp", 98), ("add_callers", 109), ("count_calls", 116), ("_law_drawn", 123), ("_law_grammar", 128), ("_law_closed", 133), ("_law_machine", 138), ("_law_fitting", 145), ("_law_further", 152), ("law", 157), ("EXACT_TOKEN_TYPES", 15)]
noncomputable abbrev biL : List Str := ["len", "sum", "abs", "ord", "isinstance", "sorted", "range", "enumerate", "zip", "tuple", "list", "str", "ValueError"]
noncomputable abbrev fnL : List Addr := [24, 31, 38, 47, 56, 65, 74, 88, 95, 109, 116, 123, 128, 133, 138, 145, 152, 157]
noncomputable abbrev noL : List Str := ["R", "S", "T", "end"]
structure KF (P : Params) (K : Frag) : Prop where
 t1 : K.lookup 135 = none
 t2 : K.lookup 154 = none
 fns : (fnL.all (fnB K)) = true
 refs : (refL.all fun p : Str × Addr => refAt K p.1 p.2) = true
 kints : (intAt K "ENDMARKER" 0 && intAt K "NT_OFFSET" 256) = true
 frees : (biL.all fun x : Str => freeAt K x) = true
 d24 : DefSt (fdAt K 24) (topSt 52) /\ Bare (fdAt K 24)
 d31 : DefSt (fdAt K 31) (topSt 53) /\ Bare (fdAt K 31)
 d38 : DefSt (fdAt K 38) (topSt 54) /\ Bare (fdAt K 38)
 d47 : DefSt (fdAt K 47) (topSt 56)
 d56 : DefSt (fdAt K 56) (topSt 57)
 d65 : DefSt (fdAt K 65) (topSt 58)
 d74 : DefSt (fdAt K 74) (topSt 59)
 d109 : DefSt (fdAt K 109) (topSt 62) /\ Bare (fdAt K 109)
 d116 : DefSt (fdAt K 116) (topSt 63) /\ Bare (fdAt K 116)
 d123 : DefSt (fdAt K 123) (topSt 65) /\ Bare (fdAt K 123)
 d128 : DefSt (fdAt K 128) (topSt 66) /\ Bare (fdAt K 128)
 d133 : DefSt (fdAt K 133) (topSt 67) /\ Bare (fdAt K 133)
 d138 : DefSt (fdAt K 138) (topSt 68) /\ Bare (fdAt K 138)
 d145 : DefSt (fdAt K 145) (topSt 69) /\ Bare (fdAt K 145)
 d152 : DefSt (fdAt K 152) (topSt 70) /\ Bare (fdAt K 152)
 d157 : DefSt (fdAt K 157) (topSt 71) /\ Bare (fdAt K 157)
 d88 : DefSt (fdAt K 88) clsBody[0]? /\ Bare (fdAt K 88)
 d95 : DefSt (fdAt K 95) clsBody[1]? /\ Bare (fdAt K 95)
 seeks : (([47, 56, 65, 74] : List Addr).all fun a => seekB K a && seekK K a) = true
 cd1 : codeHdIn K 137 135 = true
 cd2 : codeHdIn K 156 154 = true
 cm : (fdAt K 138).code = .ref 137
 cl : (fdAt K 157).code = .ref 156
 makes : makesIn K 98 = true
 init : findIn K (.ref 98) "__init__" = some (some (.ref 88))
 initT : typeIn K (.ref 88) = some (.type "function")
 cmp : findIn K (.ref 98) "compare" = some (some (.ref 95))
 cmpT : typeIn K (.ref 95) = some (.type "function")
 ga : findIn K (.ref 98) "__getattribute__" = some (some (.builtin "object.__getattribute__"))
 gk : findIn K (.ref 98) "__getattr__" = some none
 sa : findIn K (.ref 98) "__setattr__" = some (some (.builtin "object.__setattr__"))
 over : plainOver K 98 = true
 taker : takerIn K 98 "comp_select_list" = some none
 hasD : hasDictIn K 98 = true
 keep : keepIn K (.ref 98) = true
 attr : findIn K (.ref 98) "comp_select_list" = some none
 tk : K.lookup 15 = some ⟨.type "dict", none, .dict (esAt K 15) (nAt K 15), #[]⟩
 tkeys : KeysLit P (esAt K 15).toList
 toks : ((List.range 48).all (tokB K)) = true
 tno : (noL.all fun x : Str => match nsIn K 15 x with
   | some none => true
   | _ => false) = true
end
section
variable {w : World} {s₁ : Shared} {K : Frag} {mg mb : Str -> Option Value} {loose : List Str} {mean : ExcName -> Option Value} {pT : Program}
noncomputable abbrev theProg : Program := PySem.Challenge.rw_xh0037_01.row.prog
noncomputable def theCx (w : World) (s₁ : Shared) : Cx := ⟨theProg, w, s₁, P0 s₁.heap⟩
variable (F : KF w.params K) (KX : K.In s₁.heap) (T : Top pT loose mean mg mb s₁.heap) (KT : ∀ P : Addr, P ∈ [135, 154] -> s₁.heap.get? P = some (tabObj #[]))
include F KX in
theorem k_pool : ∀ a o, K.lookup a = some o -> (theCx w s₁).P₀ a = some o := by
 intro a o e; refine p0_get (fun q => ?_) (fun q => ?_) (KX a o e)
 . rw [q, F.t1] at e; cases e
 . rw [q, F.t2] at e; cases e
include F KX in
theorem k_in : ∀ h : Heap, (∀ a o, (theCx w s₁).P₀ a = some o -> h.get? a = some o) -> K.In h := fun h hh a o e => hh a o (k_pool F KX a o e)
theorem ns_keep {h : Heap} {a : Addr} {m : Str -> Option Value} (hh : ∀ a o, (theCx w s₁).P₀ a = some o -> h.get? a = some o) (h1 : a ≠ 135) (h2 : a ≠ 154) (N : s₁.heap.Ns a m) : h.Ns a m :=
 N.at' fun o e => hh a o (p0_get h1 h2 e)
include T in
theorem gl_of (glob : List (Str × AV)) (hg : ∀ x d, (x, d) ∈ glob -> ∃ v, VR (theCx w s₁).P₀ v d /\ (mg x = some v \/ (mg x = none /\ mb x = some v))) : Gl (theCx w s₁) glob where
 glob h hh := ⟨mg, mb, ns_keep hh (by decide) (by decide) T.g, ns_keep hh (by decide) (by decide) T.b, hg⟩
 nolimit h hh := by
   obtain ⟨mc, h1, h2⟩ := T.nolimit; exact ⟨mc, ns_keep hh (by decide) (by decide) h1, h2⟩
 sysm := by
   obtain ⟨o, _, _, h1, _⟩ := T.g; exact ⟨mainGlobals, o, by decide, p0_get (by decide) (by decide) h1⟩
include T in
theorem gn_of {x : Str} {d : AV} {v : Value} (r : VR (theCx w s₁).P₀ v d) (e : mg x = some v \/ (mg x = none /\ mb x = some v)) : GN (theCx w s₁) x d :=
 ⟨[(x, d)], gl_of T _ fun y d' hm => by
   rw [mem_singleton] at hm; cases hm; exact ⟨v, r, e⟩, List.mem_singleton.mpr rfl⟩
include KX T in
set_option tactic.hygienic true in
theorem ref_mg {x : Str} {a : Addr} (e : refAt K x a = true) : mg x = some (.ref a) := by
 unfold refAt at e; split at e
 . rename_i b hb
   rw [ns_K KX T.g hb, eq_of_beq e]
 . cases e
include KX T in
theorem gn_ref {x : Str} {a : Addr} {d : AV} (e : refAt K x a = true) (r : VR (theCx w s₁).P₀ (.ref a) d) : GN (theCx w s₁) x d := gn_of T r (.inl (ref_mg KX T e))
include KX T in
set_option tactic.hygienic true in
theorem gn_int {x : Str} {i : Int} (e : intAt K x i = true) : GN (theCx w s₁) x (.int i) := by
 unfold intAt at e; split at e
 . rename_i k t hk
   refine gn_of T (v := .int i t) (.int i t) (.inl ?_); rw [ns_K KX T.g hk, eq_of_beq e]
 . cases e
include KX T in
set_option tactic.hygienic true in
theorem gn_free {x : Str} {v : Value} (e : freeAt K x = true) (hn : x ≠ "__name__") (hb : bootBuiltins x = some v) : GN (theCx w s₁) x (.val v) := by
 unfold freeAt at e; split at e
 . rename_i hk
   exact gn_of T (.val v) (.inr ⟨ns_K KX T.g hk, by rw [T.builtins x hn, hb]⟩)
 . cases e
theorem all_at {α : Type} {l : List α} {p : α -> Bool} (h : l.all p = true) {x : α} (hx : x ∈ l) : p x = true := List.all_eq_true.mp h x hx
include T KT in
theorem glB_of : GlB (theCx w s₁) where
 blt h hh := by
   obtain ⟨bm, ob, h1, h2, h3, h4, h5, h6⟩ := T.bmain; obtain ⟨o3, es, ep, g1, g2, _⟩ := T.g
   have hne : ∀ P : Addr, P ∈ [135, 154] -> bm ≠ P := by
     rintro P hP rfl; rw [KT _ hP] at h3; cases h3; cases h4
   have hm : bm ≠ mainGlobals := by
     rintro rfl; rw [g1] at h3; cases h3; rw [g2] at h6; cases h6
   exact ⟨mg, bm, ob, ns_keep hh (by decide) (by decide) T.g, h1, h2, hm, p0_get (hne 135 (by decide)) (hne 154 (by decide)) h3, h4, h5, h6⟩
 mainP := by
   obtain ⟨o, _, _, h1, _⟩ := T.g; exact ⟨o, p0_get (by decide) (by decide) h1⟩
include F KX in
theorem vr_at {a : Addr} (h : a ∈ fnL) : VR (theCx w s₁).P₀ (.ref a) (.fn (fdAt K a)) := vr_fn (k_pool F KX) (all_at F.fns h)
include F KX T in
theorem gn_at {x : Str} {a : Addr} (h : (x, a) ∈ refL)
   (h2 : a ∈ fnL) : GN (theCx w s₁) x (.fn (fdAt K a)) := gn_ref KX T (all_at F.refs h) (vr_at F KX h2)
include F KX T in
theorem gn_bi {x : Str} {v : Value} (h : x ∈ biL) (hb : bootBuiltins x = some v) (hn : x ≠ "__name__") : GN (theCx w s₁) x (.val v) :=
 gn_free KX T (all_at F.frees h) hn hb
include F KX T KT in
theorem wd_of : ∃ X : Wd (theCx w s₁), X.mach = fdAt K 138 /\ X.law = fdAt K 157 /\ X.bisL = fdAt K 74 /\ X.bisR = fdAt K 56 /\ X.insL = fdAt K 65 /\ X.insR = fdAt K 47 := by
 refine ⟨{
   G := gl_of T [] (fun x d h => nomatch h)
   GB := glB_of T KT
   isT := fdAt K 24, isN := fdAt K 31, isE := fdAt K 38, insR := fdAt K 47, bisR := fdAt K 56, insL := fdAt K 65, bisL := fdAt K 74
   addC := fdAt K 109, cntC := fdAt K 116, drawn := fdAt K 123, gram := fdAt K 128, closed := fdAt K 133, mach := fdAt K 138, fitt := fdAt K 145, furt := fdAt K 152, law := fdAt K 157
   d_isT := F.d24, d_isN := F.d31, d_isE := F.d38, d_insR := F.d47, d_bisR := F.d56, d_insL := F.d65, d_bisL := F.d74
   d_addC := F.d109, d_cntC := F.d116, d_drawn := F.d123, d_gram := F.d128, d_closed := F.d133, d_mach := F.d138, d_fitt := F.d145, d_furt := F.d152, d_law := F.d157
   g := fun x d h => by
     induction h
     case ENDMARKER => exact gn_int KX T (Bool.and_eq_true_iff.mp F.kints).1
     case NT_OFFSET => exact gn_int KX T (Bool.and_eq_true_iff.mp F.kints).2
     all_goals first | exact gn_at F KX T (by decide) (by decide) | exact gn_bi F KX T (by decide) (by decide +kernel) (by decide) }, rfl, rfl, rfl, rfl, rfl, rfl⟩
include F KX T in
theorem ki_of : ∃ I : Ki (theCx w s₁), True :=
 ⟨{ K := K, KX := k_in F KX, kC := 98, kI := 88, kM := 95, fI := fdAt K 88, fM := fdAt K 95
    g_comp := gn_ref KX T (all_at F.refs (x := ("TupleComp", 98)) (by decide)) (.val _)
    makes := F.makes, init := F.init, initT := F.initT, v_I := vr_at F KX (by decide), cmp := F.cmp, cmpT := F.cmpT, v_M := vr_at F KX (by decide)
    ga := F.ga, gk := F.gk, sa := F.sa, over := F.over, taker := F.taker, hasD := F.hasD, keep := F.keep, attr := F.attr, d_I := F.d88, d_M := F.d95 }, trivial⟩
include F KX in
set_option tactic.hygienic true in
theorem seek_of {a : Addr} (ha : a ∈ [47, 56, 65, 74]) : SeekD (theCx w s₁) (fdAt K a) where
 dflt := by
   have h := (Bool.and_eq_true_iff.mp (all_at F.seeks ha)).1; unfold seekB at h; split at h
   . rename_i T hT
     split at h
     . rename_i o ho
       split at h
       . rename_i vs n hvs
         split at h
         . rename_i i t hl
           have hi := eq_of_beq h; subst hi; refine ⟨T, o, n, t, hT, k_pool F KX _ _ ho, ?_⟩; rw [hvs]
           congr 1
           exact Array.ext' hl
         . cases h
       . cases h
     . cases h
   . cases h
 kwd := by
   have h := (Bool.and_eq_true_iff.mp (all_at F.seeks ha)).2; unfold seekK at h; split at h
   . rename_i D hD
     split at h
     . rename_i o ho
       split at h
       . rename_i es n hes
         obtain ⟨h1, h2⟩ := Bool.and_eq_true_iff.mp h; refine ⟨D, nsFind es, hD, fun h hh => ⟨o, es, n, k_in F KX h hh _ _ ho, hes, fun e he => ?_, fun _ => rfl⟩, ?_⟩
         . have := List.all_eq_true.mp h1 e (Array.mem_toList_iff.mpr he); split at this
           . rename_i x t hx; exact ⟨x, t, hx⟩
           . cases this
         . split at h2
           . rename_i hx; exact hx
           . cases h2
       . cases h
     . cases h
   . cases h
include F KX in
set_option tactic.hygienic true in
theorem tk_of (hg : GN (theCx w s₁) "EXACT_TOKEN_TYPES" (.val (.ref 15))) : ∃ TK : Tk (theCx w s₁), (∀ i < 48, ∃ t, TK.f (opTexts.getD i Str.empty) = some (.int (7 + i) t)) /\ TK.f "R" = none /\ TK.f "S" = none /\ TK.f "T" = none /\ TK.f "end" = none := by
 refine ⟨⟨15, fun k => findBy Value.isStrOf (esAt K 15) k, hg, by decide, fun h hh => mapOf_K (k_in F KX h hh) F.tk F.tkeys⟩, fun i hi => ?_, ?_⟩
 . have h := all_at F.toks (List.mem_range.mpr hi); unfold tokB at h; split at h
   . rename_i k t hk
     refine ⟨t, ?_⟩; show findBy Value.isStrOf (esAt K 15) _ = _; rw [find_K F.tk hk, eq_of_beq h]
   . cases h
 . have key : ∀ x ∈ noL, findBy Value.isStrOf (esAt K 15) x = none := by
     intro x hx; have h := all_at F.tno hx; split at h
     . rename_i hk; exact find_K F.tk hk
     . cases h
   exact ⟨key _ (by decide), key _ (by decide), key _ (by decide), key _ (by decide)⟩
theorem is_tab {h : Heap} {c P : Addr} (C : CodeHd h c P) : isCodeTable h P := by
 obtain ⟨o, vs, file, tf, flags, tg, inF, text, tt, h1, h2, h3, h4, _⟩ := C; exact ⟨c, o, vs, h1, h2, h3, h4⟩
include F KX T KT in
theorem law_ends (hgens : s₁.gens = #[]) {a : Addr} {vs : List Value} {ns : List Int} (hL : s₁.heap.IsList a vs.toArray) (hI : IntsAre vs ns) (hl : ns.length <= 63) {mgfa : Addr} (hfa : mg "law" = some (.ref mgfa)) {E : Value -> Shared -> Prop} :
   wpAny (model theProg w) callerA (call (.ref mgfa) [.ref a]) (fun v s' => v = .bool true /\ OldK s₁.heap s'.heap /\ s'.os = s₁.os /\ s'.gens = #[]) E s₁ := by
 obtain ⟨X, x1, x2, x3, x4, x5, x6⟩ := wd_of F KX T KT; obtain ⟨I, _⟩ := ki_of F KX T; obtain ⟨TK, tk1, tk2⟩ := tk_of F KX (gn_ref KX T (all_at F.refs (x := ("EXACT_TOKEN_TYPES", 15)) (by decide)) (.val _)); have S : Sk X := ⟨x3 ▸ seek_of F KX (by decide), x4 ▸ seek_of F KX (by decide), x5 ▸ seek_of F KX (by decide), x6 ▸ seek_of F KX (by decide)⟩; obtain ⟨B, B1, B2⟩ : ∃ B : Tb X, B.tM = 135 /\ B.tL = 154 := ⟨⟨135, 154, ⟨137, by rw [x1]; exact F.cm, fun h hh => codeHd_of_K (k_in F KX h hh) F.cd1⟩, ⟨156, by rw [x2]; exact F.cl, fun h hh => codeHd_of_K (k_in F KX h hh) F.cd2⟩⟩, rfl, rfl⟩; have hfa' := ref_mg KX T (x := "law") (a := 157) (all_at F.refs (x := ("law", 157)) (by decide)); rw [hfa] at hfa'; obtain rfl : mgfa = 157 := by cases hfa'; rfl
 have k1 := KT 135 (by decide); have k2 := KT 154 (by decide)
 have hcall : CallV (theCx w s₁) callerA (.fn X.law) [.wlist (ns.map AV.int)] [] [(135, .tab (alM X)), (154, .tab (alL X))] (fun d τ => d = .bool true /\ ∃ al1 al2, (135, AEnt.tab al1) ∈ τ /\ (154, AEnt.tab al2) ∈ τ) :=
   law_call X I S B TK tk1 tk2 ⟨rfl, by decide, by decide⟩ rfl (.inr rfl) hl (by rw [B1]; simp) (by rw [B2]; simp) fun τ hτ => ⟨rfl, alM X, alL X, hτ _ (by simp), hτ _ (by simp)⟩
 have hSat : Sat (theCx w s₁) (P0 s₁.heap) [(135, .tab (alM X)), (154, .tab (alL X))] s₁ := by
   refine ⟨PLe.refl _, fun a o e => (p0_of e).2.2, ?_, ?_, by simp, rfl, rfl⟩
   . intro p hp; simp only [mem_cons, not_mem_nil, or_false] at hp; rcases hp with rfl | rfl
     . exact if_pos (.inl rfl)
     . exact if_pos (.inr rfl)
   . intro p hp; simp only [mem_cons, not_mem_nil, or_false] at hp; rcases hp with rfl | rfl
     . exact ⟨#[], k1, trivial, fun pos cv q e _ => by cases e⟩
     . exact ⟨#[], k2, trivial, fun pos cv q e _ => by cases e⟩
 have hv : VR (P0 s₁.heap) (.ref 157) (.fn X.law) := x2 ▸ vr_at F KX (by decide)
 have hints : ∀ {vs : List Value} {ns : List Int}, IntsAre vs ns -> VRs (P0 s₁.heap) vs (ns.map AV.int) := by
   intro vs ns h
   induction h with
   | nil => exact .nil
   | cons n t h ih => exact .cons (.int n t) ih
 obtain ⟨o, ho, hc, n, hdt⟩ := hL
 have ha : P0 s₁.heap a = some o := by
   refine p0_get ?_ ?_ ho
   . rintro rfl; rw [k1] at ho; cases ho; cases hc
   . rintro rfl; rw [k2] at ho; cases ho; cases hc
 refine wpAny_mono (hcall _ _ _ _ _ hSat hv (.cons (.wlist ha hc hdt (hints hI)) .nil) .nil) ?_ (fun _ _ h => h.elim); rintro v s' ⟨P', b, σ', l, S', r, rfl, al1, al2, m1, m2⟩; obtain ⟨ps1, g1, _⟩ := S'.ents _ m1; obtain ⟨ps2, g2, _⟩ := S'.ents _ m2; refine ⟨by cases r; rfl, ⟨fun b o e => ?_, fun b o e => ?_⟩, S'.os, S'.gens.trans hgens⟩
 . by_cases h1 : b = 135
   . subst h1; rw [k1] at e; cases e; exact .inr (.inl ⟨is_tab (codeHd_of_K KX F.cd1), rfl, #[], ps1, rfl, by rw [g1, Array.empty_append]⟩)
   . by_cases h2 : b = 154
     . subst h2; rw [k2] at e; cases e; exact .inr (.inl ⟨is_tab (codeHd_of_K KX F.cd2), rfl, #[], ps2, rfl, by rw [g2, Array.empty_append]⟩)
     . exact .inl (S'.old b o (p0_get h1 h2 e))
 . by_cases h1 : b = 135
   . exact ⟨_, h1 ▸ g1⟩
   . by_cases h2 : b = 154
     . exact ⟨_, h2 ▸ g2⟩
     . exact ⟨o, S'.old b o (p0_get h1 h2 e)⟩
end
end
theorem holds.tw8564859838321607590 : True := trivial
theorem holds.tw14040500308302212198 : True := trivial
theorem holds.tw6625647079994383790 : True := trivial
theorem holds.tw15877800719937004243 : True := trivial
theorem holds.tw7489442468371225996 : True := trivial
theorem holds.tw13563289320671947111 : True := trivial
theorem holds.tw1389151227800987198 : True := trivial
theorem holds.tw14909755809603706335 : True := trivial
theorem holds.tw16898140867199733807 : True := trivial
theorem holds.tw4065005997163835561 : True := trivial
theorem holds.tw707885073954110949 : True := trivial
theorem holds.tw796759694961249027 : True := trivial
theorem holds.tw2162985242385829321 : True := trivial
theorem holds.tw7365562674294520451 : True := trivial
theorem holds.tw8551410553514715252 : True := trivial
theorem holds.tw9638990691586225099 : True := trivial
theorem holds.tw11612728935029869629 : True := trivial
theorem holds.tw9146587202723764964 : True := trivial
theorem holds.tw3864012138097595758 : True := trivial
theorem holds.tw16497969686579978388 : True := trivial
theorem holds.tw9143120035062812437 : True := trivial
theorem holds.tw15043986215568586124 : True := trivial
theorem holds.tw13334661261001831826 : True := trivial
theorem holds.tw2642592217982111355 : True := trivial
theorem holds.tw15508052975418401991 : True := trivial
theorem holds.tw15573729904360925794 : True := trivial
theorem holds.tw17822619038779606285 : True := trivial
theorem holds.tw2667925813562934949 : True := trivial
theorem holds.tw10828986214106111531 : True := trivial
theorem holds.tw7885888744534978006 : True := trivial
theorem holds.tw15203487316939043196 : True := trivial
theorem holds.tw5878047611234877577 : True := trivial
theorem holds.tw2335221107431800076 : True := trivial
theorem holds.tw12633084752571091873 : True := trivial
theorem holds.tw8324913547053779211 : True := trivial
theorem holds.tw8944343764007091065 : True := trivial
theorem holds.tw14456359579513077766 : True := trivial
theorem holds.tw12467034654032377186 : True := trivial
theorem holds.tw2160012875989923789 : True := trivial
theorem holds.tw10698829266838348154 : True := trivial
theorem holds.tw8115153917610635543 : True := trivial
theorem holds.tw9518972631687950247 : True := trivial
theorem holds.tw3579776383272448420 : True := trivial
theorem holds.tw5531990279233569197 : True := trivial
set_option tactic.hygienic true in
set_option Elab.async true in
theorem holds : PySem.Challenge.rw_xh0037_01.Holds := by
 w_on; o_law; k_head; (case hw => w_witness2)
 k_fill
 intro w s₀ s₁ mg mb G Y fa o pm cd doc dV kV ho hdd hcd hD hmg hg args vals as hpre hlay hrd hwl hlo
 have KX := km_in_of Y
 have KT := km_tabs_of Y
 have hmg' : mg "law" = some (.ref fa) := hmg
 clear hD hcd hdd Y hmg
 wrow_args hpre hlay hrd hwl hlo
 rename_i hL _ _ _ hI _ hlen _
 refine wpAny_mono (law_ends ?F KX G.T KT hg hL hI (by omega) hmg') ?_ (fun _ _ h => h)
 case F => exact ⟨by kernel_rfl, by kernel_rfl, by kernel_rfl, by kernel_rfl, by kernel_rfl, by kernel_rfl,
   ⟨⟨by kernel_rfl, by kernel_rfl, by kernel_rfl, by kernel_rfl, by kernel_rfl, by kernel_rfl⟩, ⟨by kernel_rfl, by kernel_rfl⟩⟩,
   ⟨⟨by kernel_rfl, by kernel_rfl, by kernel_rfl, by kernel_rfl, by kernel_rfl, by kernel_rfl⟩, ⟨by kernel_rfl, by kernel_rfl⟩⟩,
   ⟨⟨by kernel_rfl, by kernel_rfl, by kernel_rfl, by kernel_rfl, by kernel_rfl, by kernel_rfl⟩, ⟨by kernel_rfl, by kernel_rfl⟩⟩,
   ⟨by kernel_rfl, by kernel_rfl, by kernel_rfl, by kernel_rfl, by kernel_rfl, by kernel_rfl⟩,
   ⟨by kernel_rfl, by kernel_rfl, by kernel_rfl, by kernel_rfl, by kernel_rfl, by kernel_rfl⟩,
   ⟨by kernel_rfl, by kernel_rfl, by kernel_rfl, by kernel_rfl, by kernel_rfl, by kernel_rfl⟩,
   ⟨by kernel_rfl, by kernel_rfl, by kernel_rfl, by kernel_rfl, by kernel_rfl, by kernel_rfl⟩,
   ⟨⟨by kernel_rfl, by kernel_rfl, by kernel_rfl, by kernel_rfl, by kernel_rfl, by kernel_rfl⟩, ⟨by kernel_rfl, by kernel_rfl⟩⟩,
   ⟨⟨by kernel_rfl, by kernel_rfl, by kernel_rfl, by kernel_rfl, by kernel_rfl, by kernel_rfl⟩, ⟨by kernel_rfl, by kernel_rfl⟩⟩,
   ⟨⟨by kernel_rfl, by kernel_rfl, by kernel_rfl, by kernel_rfl, by kernel_rfl, by kernel_rfl⟩, ⟨by kernel_rfl, by kernel_rfl⟩⟩,
   ⟨⟨by kernel_rfl, by kernel_rfl, by kernel_rfl, by kernel_rfl, by kernel_rfl, by kernel_rfl⟩, ⟨by kernel_rfl, by kernel_rfl⟩⟩,
   ⟨⟨by kernel_rfl, by kernel_rfl, by kernel_rfl, by kernel_rfl, by kernel_rfl, by kernel_rfl⟩, ⟨by kernel_rfl, by kernel_rfl⟩⟩,
   ⟨⟨by kernel_rfl, by kernel_rfl, by kernel_rfl, by kernel_rfl, by kernel_rfl, by kernel_rfl⟩, ⟨by kernel_rfl, by kernel_rfl⟩⟩,
   ⟨⟨by kernel_rfl, by kernel_rfl, by kernel_rfl, by kernel_rfl, by kernel_rfl, by kernel_rfl⟩, ⟨by kernel_rfl, by kernel_rfl⟩⟩,
   ⟨⟨by kernel_rfl, by kernel_rfl, by kernel_rfl, by kernel_rfl, by kernel_rfl, by kernel_rfl⟩, ⟨by kernel_rfl, by kernel_rfl⟩⟩,
   ⟨⟨by kernel_rfl, by kernel_rfl, by kernel_rfl, by kernel_rfl, by kernel_rfl, by kernel_rfl⟩, ⟨by kernel_rfl, by kernel_rfl⟩⟩,
   ⟨⟨by kernel_rfl, by kernel_rfl, by kernel_rfl, by kernel_rfl, by kernel_rfl, by kernel_rfl⟩, ⟨by kernel_rfl, by kernel_rfl⟩⟩,
   ⟨⟨by kernel_rfl, by kernel_rfl, by kernel_rfl, by kernel_rfl, by kernel_rfl, by kernel_rfl⟩, ⟨by kernel_rfl, by kernel_rfl⟩⟩,
   by kernel_rfl, by kernel_rfl, by kernel_rfl, by kernel_rfl, by kernel_rfl, by kernel_rfl, by kernel_rfl, by kernel_rfl, by kernel_rfl, by kernel_rfl, by kernel_rfl, by kernel_rfl, by kernel_rfl, by kernel_rfl, by kernel_rfl, by kernel_rfl, by kernel_rfl, by kernel_rfl,
   by kernel_rfl, (show KeysLit w.params (esAt _ 15).toList by
     repeat (first | exact True.intro | refine And.intro ⟨_, _, rfl, rfl⟩ ?_)), by kernel_rfl, by kernel_rfl⟩
 rintro v s' ⟨rfl, h1, h2, h3⟩
 refine ⟨.inl ⟨.bool true, .bool true, [], rfl, raisesW_false allW_false_nil, .bool true, ?_, fun _ => ⟨nodup_nil, fun a h => nomatch h⟩⟩, h1, h2, ?_⟩
 · wrow_post
 · intro y hy
   rw [h3] at hy
   simp at hy
end Mine
theorem PySem.Challenge.cw_xh0037_01_holds : PySem.Challenge.rw_xh0037_01.Holds :=
 Mine.holds
