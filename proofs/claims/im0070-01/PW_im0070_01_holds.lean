import PyProof.Rows.All
import Wide.All
import OpenK.AllK
import Wide.FinOn
import PySem.Challenge.RW_im0070_01
section
open PySem PySem.W PyProof.Rows PySem.Calls
set_option Elab.async false
set_option linter.all false
set_option maxRecDepth 100000
namespace Mine
noncomputable def nmL : List Str := [Str.ofString "self", Str.ofString "blen", Str.ofString "data", Str.ofString "n", Str.ofString "a", Str.ofString "b", Str.ofString "number", Str.ofString "row", Str.ofString "total", Str.ofString "place", Str.ofString "size", Str.ofString "signed", Str.ofString "more", Str.ofString "carry", Str.ofString "out", Str.ofString "octet", Str.ofString "low", Str.ofString "by", Str.ofString "rest", Str.ofString "quotient", Str.ofString "bits", Str.ofString "name", Str.ofString "x", Str.ofString "y", Str.ofString "wide", Str.ofString "turn", Str.ofString "ones", Str.ofString "kind", Str.ofString "least", Str.ofString "script", Str.ofString "numbers", Str.ofString "held", Str.ofString "rows", Str.ofString "which", Str.ofString "second", Str.ofString "due", Str.ofString "told", Str.ofString "octets", Str.ofString "_"]
noncomputable def nm (i : Nat) : Str := nmL.getD i (Str.ofString "?")
theorem nm_inj : ∀ i, i < 39 → ∀ j, j < 39 → nm i = nm j → i = j := by decide +kernel
noncomputable def txL : List Str := [Str.ofString "add", Str.ofString "sub", Str.ofString "mul", Str.ofString "add_sat", Str.ofString "sub_sat", Str.ofString "div", Str.ofString "rem", Str.ofString "shl", Str.ofString "shr", Str.ofString "sat", Str.ofString "rotl", Str.ofString "rotr", Str.ofString "clz", Str.ofString "ctz", Str.ofString "popcnt", Str.ofString "nought", Str.ofString "over", Str.ofString "little"]
noncomputable def tx (i : Nat) : Str := txL.getD i (Str.ofString "?")
theorem tx_eq : ∀ i, i < 18 → ∀ j, j < 18 → (tx i == tx j) = (i == j) := by decide +kernel
inductive D where
  | int (i : Int) | bool (b : Bool) | str (c : Nat) | list (ds : List D) | tup (ds : List D)
  | bytes (ns : List Int) | barr (ns : List Int) | ref (a : Addr)
noncomputable def IsBarr (h : Heap) (a : Addr) (b : Array UInt8) : Prop := ∃ o, h.get? a = some o ∧ o.cls = .type "bytearray" ∧ o.dict = none ∧ ∃ n, o.data = .bytearray b n
mutual
noncomputable def Rep (O : Addr → Prop) (h : Heap) : D → Value → Prop
  | .int i, v => ∃ t, v = .int i t
  | .bool b, v => v = .bool b
  | .str c, v => c < 18 ∧ ∃ t, v = .str (tx c) t
  | .list ds, v => ∃ a vs, v = .ref a ∧ h.IsList a vs.toArray ∧ ¬ O a ∧ Reps O h ds vs
  | .tup ds, v => ∃ a vs, v = .ref a ∧ IsTup h a vs.toArray ∧ ¬ O a ∧ Reps O h ds vs
  | .bytes ns, v => ∃ b t, v = .bytes b t ∧ KBw.bInts b = ns
  | .barr ns, v => ∃ a b, v = .ref a ∧ IsBarr h a b ∧ ¬ O a ∧ KBw.bInts b = ns
  | .ref a, v => v = .ref a
noncomputable def Reps (O : Addr → Prop) (h : Heap) : List D → List Value → Prop
  | [], vs => vs = []
  | d :: ds, vs => ∃ v vs', vs = v :: vs' ∧ Rep O h d v ∧ Reps O h ds vs'
end
noncomputable def Same1 (o o' : Obj) : Prop := ∃ sl, o' = { o with slots := sl }
theorem Same1.refl (o : Obj) : Same1 o o := ⟨o.slots, rfl⟩
theorem Same1.cls {o o' : Obj} (x : Same1 o o') : o'.cls = o.cls := by obtain ⟨sl, rfl⟩ := x; rfl
theorem Same1.data {o o' : Obj} (x : Same1 o o') : o'.data = o.data := by obtain ⟨sl, rfl⟩ := x; rfl
theorem Same1.dict {o o' : Obj} (x : Same1 o o') : o'.dict = o.dict := by obtain ⟨sl, rfl⟩ := x; rfl
theorem Same1.trans {o o' o'' : Obj} (x : Same1 o o') (y : Same1 o' o'') : Same1 o o'' := by
  obtain ⟨sl, rfl⟩ := x
  obtain ⟨sl', rfl⟩ := y
  exact ⟨sl', rfl⟩
structure Ext (W F : Addr → Prop) (h h' : Heap) : Prop where
  more : ∀ b o, ¬ W b → h.get? b = some o → ∃ o', h'.get? b = some o' ∧ Same1 o o'
  keep : ∀ b o, ¬ W b → ¬ F b → h.get? b = some o → h'.get? b = some o
theorem Ext.refl (W F : Addr → Prop) (h : Heap) : Ext W F h h := ⟨fun _ o _ e => ⟨o, e, .refl o⟩, fun _ _ _ _ e => e⟩
theorem Ext.trans {W F : Addr → Prop} {h h' h'' : Heap} (x : Ext W F h h') (y : Ext W F h' h'') : Ext W F h h'' :=
  ⟨fun b o hb e => let ⟨o', e', s⟩ := x.more b o hb e; let ⟨o'', e'', s'⟩ := y.more b o' hb e'; ⟨o'', e'', s.trans s'⟩,
   fun b o hb hf e => y.keep b o hb hf (x.keep b o hb hf e)⟩
theorem Ext.mono {W W' F : Addr → Prop} {h h' : Heap} (x : Ext W F h h') (k : ∀ b o, h.get? b = some o → W b → W' b) : Ext W' F h h' :=
  ⟨fun b o hb e => x.more b o (fun w => hb (k b o e w)) e, fun b o hb hf e => x.keep b o (fun w => hb (k b o e w)) hf e⟩
theorem Ext.of_keep {W F : Addr → Prop} {h h' : Heap} (k : ∀ b o, ¬ W b → h.get? b = some o → h'.get? b = some o) : Ext W F h h' :=
  ⟨fun b o hb e => ⟨o, k b o hb e, .refl o⟩, fun b o hb _ e => k b o hb e⟩
theorem Ext.push (W F : Addr → Prop) (h : Heap) (o : Obj) : Ext W F h (h.push o) := .of_keep fun _ _ _ e => Heap.get?_push_of_some _ e
theorem IsList.ext {W F : Addr → Prop} {h h' : Heap} {a : Addr} {items : Array Value} (x : h.IsList a items) (e : Ext W F h h') (n : ¬ W a) : h'.IsList a items := by
  obtain ⟨o, ho, hc, k, hd⟩ := x
  obtain ⟨o', ho', s⟩ := e.more a o n ho
  exact ⟨o', ho', s.cls.trans hc, k, s.data.trans hd⟩
theorem IsTup.ext {W F : Addr → Prop} {h h' : Heap} {a : Addr} {items : Array Value} (x : IsTup h a items) (e : Ext W F h h') (n : ¬ W a) : IsTup h' a items := by
  obtain ⟨o, ho, hc, k, hd⟩ := x
  obtain ⟨o', ho', s⟩ := e.more a o n ho
  exact ⟨o', ho', s.cls.trans hc, k, s.data.trans hd⟩
theorem IsBarr.ext {W F : Addr → Prop} {h h' : Heap} {a : Addr} {b : Array UInt8} (x : IsBarr h a b) (e : Ext W F h h') (n : ¬ W a) : IsBarr h' a b := by
  obtain ⟨o, ho, hc, hdi, k, hd⟩ := x
  obtain ⟨o', ho', s⟩ := e.more a o n ho
  exact ⟨o', ho', s.cls.trans hc, s.dict.trans hdi, k, s.data.trans hd⟩
theorem IsCell.ext {W F : Addr → Prop} {h h' : Heap} {c : Addr} {v : Option Value} (x : h.IsCell c v) (e : Ext W F h h') (n : ¬ W c) : h'.IsCell c v := by
  obtain ⟨o, ho, hd⟩ := x
  obtain ⟨o', ho', s⟩ := e.more c o n ho
  exact ⟨o', ho', s.data.trans hd⟩
theorem Ns.ext {W F : Addr → Prop} {h h' : Heap} {a : Addr} {m : Str → Option Value} (x : h.Ns a m) (e : Ext W F h h') (n : ¬ W a) : h'.Ns a m := by
  obtain ⟨o, es, ep, ho, hd, r⟩ := x
  obtain ⟨o', ho', s⟩ := e.more a o n ho
  exact ⟨o', es, ep, ho', s.data.trans hd, r⟩
mutual
theorem Rep.ext {O O' W F : Addr → Prop} {h h' : Heap} (e : Ext W F h h') (hW : ∀ b, W b → O b) (hO : ∀ b o, h.get? b = some o → O' b → O b) : ∀ (d : D) (v : Value), Rep O h d v → Rep O' h' d v
  | .int _, _, r => by unfold Rep at r ⊢; exact r
  | .bool _, _, r => by unfold Rep at r ⊢; exact r
  | .str _, _, r => by unfold Rep at r ⊢; exact r
  | .list ds, v, r => by
    unfold Rep at r ⊢
    obtain ⟨a, vs, hv, hl, hn, hr⟩ := r
    exact ⟨a, vs, hv, IsList.ext hl e (fun w => hn (hW a w)), fun o => hn (hO a _ (Classical.choose_spec hl).1 o), Reps.ext e hW hO ds vs hr⟩
  | .tup ds, v, r => by
    unfold Rep at r ⊢
    obtain ⟨a, vs, hv, hl, hn, hr⟩ := r
    exact ⟨a, vs, hv, IsTup.ext hl e (fun w => hn (hW a w)), fun o => hn (hO a _ (Classical.choose_spec hl).1 o), Reps.ext e hW hO ds vs hr⟩
  | .bytes _, _, r => by unfold Rep at r ⊢; exact r
  | .barr _, _, r => by
    unfold Rep at r ⊢
    obtain ⟨a, b, hv, hl, hn, hr⟩ := r
    exact ⟨a, b, hv, IsBarr.ext hl e (fun w => hn (hW a w)), fun o => hn (hO a _ (Classical.choose_spec hl).1 o), hr⟩
  | .ref _, _, r => by unfold Rep at r ⊢; exact r
theorem Reps.ext {O O' W F : Addr → Prop} {h h' : Heap} (e : Ext W F h h') (hW : ∀ b, W b → O b) (hO : ∀ b o, h.get? b = some o → O' b → O b) : ∀ (ds : List D) (vs : List Value), Reps O h ds vs → Reps O' h' ds vs
  | [], _, r => by unfold Reps at r ⊢; exact r
  | d :: ds, _, r => by
    unfold Reps at r ⊢
    obtain ⟨v, vs', hv, hr, hrs⟩ := r
    exact ⟨v, vs', hv, Rep.ext e hW hO d v hr, Reps.ext e hW hO ds vs' hrs⟩
end
theorem Reps.length {O : Addr → Prop} {h : Heap} : ∀ {ds : List D} {vs : List Value}, Reps O h ds vs → vs.length = ds.length
  | [], _, r => by unfold Reps at r; subst r; rfl
  | d :: ds, _, r => by
    unfold Reps at r
    obtain ⟨v, vs', rfl, _, hrs⟩ := r
    rw [List.length_cons, List.length_cons, Reps.length hrs]
theorem Reps.append {O : Addr → Prop} {h : Heap} : ∀ {ds es : List D} {vs ws : List Value}, Reps O h ds vs → Reps O h es ws → Reps O h (ds ++ es) (vs ++ ws)
  | [], _, _, _, r, q => by unfold Reps at r; subst r; exact q
  | d :: ds, es, _, ws, r, q => by
    unfold Reps at r
    obtain ⟨v, vs', rfl, h1, hrs⟩ := r
    show Reps O h (d :: (ds ++ es)) _
    unfold Reps
    exact ⟨v, vs' ++ ws, rfl, h1, Reps.append hrs q⟩
theorem Reps.get {O : Addr → Prop} {h : Heap} : ∀ {ds : List D} {vs : List Value} {k : Nat} {d : D}, Reps O h ds vs → ds[k]? = some d → ∃ v, vs[k]? = some v ∧ Rep O h d v
  | [], _, _, _, _, e => by simp at e
  | d :: ds, _, 0, d', r, e => by
    unfold Reps at r
    obtain ⟨v, vs', rfl, h1, _⟩ := r
    simp at e
    subst e
    exact ⟨v, rfl, h1⟩
  | d :: ds, _, k + 1, d', r, e => by
    unfold Reps at r
    obtain ⟨v, vs', rfl, _, hrs⟩ := r
    simp at e
    obtain ⟨v', e', r'⟩ := Reps.get hrs e
    exact ⟨v', by simpa using e', r'⟩
theorem Reps.take {O : Addr → Prop} {h : Heap} : ∀ {ds : List D} {vs : List Value} (k : Nat), Reps O h ds vs → Reps O h (ds.take k) (vs.take k)
  | _, _, 0, _ => by simp [Reps]
  | [], _, _ + 1, r => by unfold Reps at r; subst r; simp [Reps]
  | d :: ds, _, k + 1, r => by
    unfold Reps at r
    obtain ⟨v, vs', rfl, h1, hrs⟩ := r
    rw [List.take_succ_cons, List.take_succ_cons]
    unfold Reps
    exact ⟨v, _, rfl, h1, Reps.take k hrs⟩
theorem Reps.drop {O : Addr → Prop} {h : Heap} : ∀ {ds : List D} {vs : List Value} (k : Nat), Reps O h ds vs → Reps O h (ds.drop k) (vs.drop k)
  | _, _, 0, r => r
  | [], _, _ + 1, r => by unfold Reps at r; subst r; simp [Reps]
  | d :: ds, _, k + 1, r => by
    unfold Reps at r
    obtain ⟨v, vs', rfl, h1, hrs⟩ := r
    rw [List.drop_succ_cons, List.drop_succ_cons]
    exact Reps.drop k hrs
theorem Reps.flat {O : Addr → Prop} {h : Heap} {ds : List D} {vs : List Value} (r : Reps O h ds vs) : ∀ n : Nat, Reps O h (List.replicate n ds).flatten (List.replicate n vs).flatten
  | 0 => by simp [Reps]
  | n + 1 => by
    rw [List.replicate_succ, List.replicate_succ, List.flatten_cons, List.flatten_cons]
    exact Reps.append r (Reps.flat r n)
noncomputable def il (ns : List Int) : List D := ns.map D.int
theorem Reps.toInts {O : Addr → Prop} {h : Heap} : ∀ {ns : List Int} {vs : List Value}, Reps O h (il ns) vs → IntsAre vs ns
  | [], _, r => by
    have r' : Reps O h [] _ := r
    unfold Reps at r'; subst r'; exact .nil
  | n :: ns, _, r => by
    have r' : Reps O h (.int n :: il ns) _ := r
    unfold Reps at r'
    obtain ⟨v, vs', rfl, h1, hrs⟩ := r'
    unfold Rep at h1
    obtain ⟨t, rfl⟩ := h1
    exact .cons n t (Reps.toInts hrs)
end Mine
end
section
open PySem PySem.W PyProof.Rows PySem.Calls
set_option Elab.async false
set_option linter.all false
set_option autoImplicit false
set_option maxRecDepth 100000
namespace Mine
structure Wd where
  prog : Program
  w : World
  K : Frag
  p : Program
  loose : List Str
  mean : ExcName → Option Value
  mg : Str → Option Value
  mb : Str → Option Value
  base : Heap
  X : K.In base
  T : Top p loose mean mg mb base
structure Ctx where
  env : Env
  fenv : Env
  L : Addr
  outer : List Env
  O : Addr → Prop
noncomputable def Ctx.F (c : Ctx) : Addr → Prop := fun b => ∃ e ∈ c.outer, e.frame = some b
inductive Sl where
  | val (d : D)
  | own (ds : List D)
noncomputable abbrev Rho := Nat → Option Sl
noncomputable def upd (ρ : Rho) (i : Nat) (s : Sl) : Rho := fun j => if j = i then some s else ρ j
noncomputable def rho0 : Rho := fun _ => none
noncomputable def At (env : Env) (m : Str → Option Value) (h : Heap) (i : Nat) (v : Value) : Prop :=
  (env.kindOf (nm i) = some .local ∧ m (nm i) = some v) ∨
  ((env.kindOf (nm i) = some .cell ∨ env.kindOf (nm i) = some .free) ∧ ∃ a, env.cells.lookup (nm i) = some a ∧ h.IsCell a (some v))
noncomputable abbrev lobj (vs : List Value) (n : Nat) : Obj := { cls := .type "list", data := .seq vs.toArray n }
noncomputable def SlRep (OW W : Addr → Prop) (h : Heap) (c : Ctx) (a : Addr) : Sl → Value → Prop
  | .val d, v => Rep OW h d v
  | .own ds, v => v = .ref a ∧ W a ∧ ¬ c.O a ∧ a ≠ c.L ∧ a ≠ c.env.locals ∧ (∀ x ∈ c.env.cells, x.2 ≠ a) ∧ ∃ vs n, h.get? a = some (lobj vs n) ∧ Reps OW h ds vs
noncomputable def FrOk (base h : Heap) (e : Env) : Prop := e.scope.kind ≠ .module ∧ ∃ L o, e.frame = some L ∧ h.get? L = some o ∧ (∀ vs, o.data ≠ .fields vs) ∧ base.objs.size ≤ L
structure Iv (Ω : Wd) (c : Ctx) (W : Addr → Prop) (ρ : Rho) (h : Heap) : Prop where
  keep : ∀ b o, Ω.base.get? b = some o → h.get? b = some o
  wabove : ∀ b, W b → Ω.base.objs.size ≤ b
  ns0 : ∃ m, h.Ns c.L m
  wL : W c.L
  wenv : W c.env.locals
  wcell : ∀ x ∈ c.env.cells, W x.2
  cellL : ∀ x ∈ c.env.cells, x.2 ≠ c.L ∧ x.2 ≠ c.env.locals
  cellIs : ∀ x ∈ c.env.cells, ∃ v, h.IsCell x.2 v
  wF : ∀ b, W b → ¬ c.F b
  FO : ∀ b, c.F b → c.O b
  there : ∀ b, W b ∨ c.O b → ∃ o, h.get? b = some o
  apart : c.env.cells.Pairwise (fun x y => x.2 ≠ y.2)
  frL : c.fenv.frame = some c.L
  kind : c.env.scope.kind = .function
  glob : c.env.globals = mainGlobals
  blt : c.env.builtins = builtinsNs
  frs : ∀ e ∈ c.fenv :: c.outer, FrOk Ω.base h e
  vars : ∃ (m : Str → Option Value) (α : Nat → Addr), h.Ns c.env.locals m ∧ (∀ i sl, ρ i = some sl → i < 39 ∧ ∃ v, At c.env m h i v ∧ SlRep (fun b => c.O b ∨ W b) W h c (α i) sl v) ∧
    ∀ i j ds es, ρ i = some (.own ds) → ρ j = some (.own es) → α i = α j → i = j
structure EExt (c : Ctx) (h h' : Heap) : Prop where
  ext : Ext (fun b => b = c.L) c.F h h'
  ns : ∀ m, h.Ns c.L m → h'.Ns c.L m
theorem EExt.refl (c : Ctx) (h : Heap) : EExt c h h := ⟨.refl _ _ _, fun _ x => x⟩
theorem EExt.trans {c : Ctx} {h h' h'' : Heap} (x : EExt c h h') (y : EExt c h' h'') : EExt c h h'' := ⟨x.ext.trans y.ext, fun m z => y.ns m (x.ns m z)⟩
theorem EExt.of_keep {c : Ctx} {h h' : Heap} (k : ∀ b o, h.get? b = some o → h'.get? b = some o) : EExt c h h' :=
  ⟨.of_keep fun b o _ e => k b o e, fun _ x => x.keeps k⟩
theorem EExt.push (c : Ctx) (h : Heap) (o : Obj) : EExt c h (h.push o) := .of_keep fun _ _ e => Heap.get?_push_of_some _ e
section
variable {Ω : Wd} {c : Ctx} {W : Addr → Prop} {ρ : Rho} {h h' : Heap}
theorem Iv.F_above (I : Iv Ω c W ρ h) {b : Addr} (hb : c.F b) : Ω.base.objs.size ≤ b := by
  obtain ⟨e, he, hf⟩ := hb
  obtain ⟨_, L, o, hfr, _, _, hab⟩ := I.frs e (.tail _ he)
  rw [hf] at hfr
  cases hfr
  exact hab
theorem Iv.base_off (I : Iv Ω c W ρ h) {b : Addr} {o : Obj} (e : Ω.base.get? b = some o) : ¬ W b ∧ ¬ c.F b :=
  ⟨fun w => absurd (Heap.lt_size e) (Nat.not_lt.mpr (I.wabove b w)), fun f => absurd (Heap.lt_size e) (Nat.not_lt.mpr (I.F_above f))⟩
theorem FrOk.ext {V F : Addr → Prop} {base : Heap} {e : Env} {L : Addr} (x : FrOk base h e) (y : Ext V F h h') (hL : e.frame = some L) (n : ¬ V L) : FrOk base h' e := by
  obtain ⟨k, L', o, hf, ho, hd, hab⟩ := x
  rw [hL] at hf
  cases hf
  obtain ⟨o', ho', s⟩ := y.more _ _ n ho
  exact ⟨k, _, o', hL, ho', fun vs q => hd vs (s.data ▸ q), hab⟩
theorem At.ext {m : Str → Option Value} {i : Nat} {v : Value} {V F : Addr → Prop} (x : At c.env m h i v) (e : Ext V F h h') (n : ∀ x ∈ c.env.cells, ¬ V x.2) : At c.env m h' i v := by
  rcases x with x | ⟨k, a, ha, hc⟩
  · exact .inl x
  · exact .inr ⟨k, a, ha, IsCell.ext hc e (n (nm i, a) (mem_of_lookup ha))⟩
theorem Iv.eext (I : Iv Ω c W ρ h) (e : EExt c h h') : Iv Ω c W ρ h' := by
  have off : ∀ x ∈ c.env.cells, ¬ (x.2 = c.L) := fun x hx => (I.cellL x hx).1
  have toO : ∀ b, b = c.L → c.O b ∨ W b := fun b hb => .inr (hb ▸ I.wL)
  refine ⟨fun b o hb => ?_, I.wabove, ?_, I.wL, I.wenv, I.wcell, I.cellL, fun x hx => ?_, I.wF, I.FO, fun b hb => ?_, I.apart, I.frL, I.kind, I.glob, I.blt, fun ev hev => ?_, ?_⟩
  · exact e.ext.keep b o (fun q => (I.base_off hb).1 (q ▸ I.wL)) (I.base_off hb).2 (I.keep b o hb)
  · obtain ⟨m, hm⟩ := I.ns0; exact ⟨m, e.ns m hm⟩
  · obtain ⟨v, hv⟩ := I.cellIs x hx; exact ⟨v, IsCell.ext hv e.ext (off x hx)⟩
  · by_cases q : b = c.L
    · subst q
      obtain ⟨m, hm⟩ := I.ns0
      obtain ⟨o, _, _, ho, _⟩ := e.ns m hm
      exact ⟨o, ho⟩
    · obtain ⟨o, ho⟩ := I.there b hb
      obtain ⟨o', ho', _⟩ := e.ext.more b o q ho
      exact ⟨o', ho'⟩
  · have x := I.frs ev hev
    by_cases q : ev.frame = some c.L
    · obtain ⟨k, L, o, hf, ho, hd, hab⟩ := x
      rw [q] at hf; cases hf
      obtain ⟨m, hm⟩ := I.ns0
      obtain ⟨o', es, ep, ho', hd', _⟩ := e.ns m hm
      exact ⟨k, _, o', q, ho', fun vs z => (by rw [hd'] at z; cases z), hab⟩
    · obtain ⟨k, L, o, hf, ho, hd, hab⟩ := id x
      exact x.ext e.ext hf fun z => q (by rw [hf, z])
  · obtain ⟨m, α, hm, hv, hi⟩ := I.vars
    refine ⟨m, α, ?_, fun i sl hs => ?_, hi⟩
    · by_cases q : c.env.locals = c.L
      · rw [q] at hm ⊢; exact e.ns m hm
      · exact Ns.ext hm e.ext q
    · obtain ⟨hi39, v, hat, hr⟩ := hv i sl hs
      refine ⟨hi39, v, hat.ext e.ext off, ?_⟩
      cases sl with
      | val d => exact Rep.ext e.ext toO (fun _ _ _ z => z) d v hr
      | own ds =>
        obtain ⟨h1, h2, hO, h3, h4, h5, vs, n, ho, hrs⟩ := hr
        exact ⟨h1, h2, hO, h3, h4, h5, vs, n, e.ext.keep _ _ h3 (I.wF _ h2) ho, Reps.ext e.ext toO (fun _ _ _ z => z) ds vs hrs⟩
end
noncomputable def excN : Nat → String
  | 0 => "ZeroDivisionError"
  | _ => "AssertionError"
structure Rsd (c : Ctx) (W : Addr → Prop) (base h₀ : Heap) (k : Nat) (e : Addr) (h' : Heap) : Prop where
  ext : Ext W c.F h₀ h'
  keep : ∀ b o, base.get? b = some o → h'.get? b = some o
  new : h₀.get? e = none
  frs : ∀ ev ∈ c.fenv :: c.outer, FrOk base h' ev
  exc : (∃ ob t, h'.get? e = some ob ∧ ob.cls = .type (excN k) ∧ ob.data = .fields #[t, .none, .none, .none, .bool false, .none]) ∨ h'.Traced h₀ e (.type (excN k))
structure AOk (c : Ctx) (n : Nat) (A : Around) : Prop where
  hd : A.handled = none
  frames : A.frames = some (c.fenv :: c.outer)
  depth : A.depth + 60 + n < recursionLimit
  units : A.units + 100 + 8 * n < cLine
noncomputable abbrev TE := Rho → (D → Prop) → (Nat → Prop) → Prop
noncomputable abbrev TB := Rho → (Bool → Prop) → (Nat → Prop) → Prop
noncomputable def Post (Ω : Wd) (c : Ctx) (W : Addr → Prop) (ρ : Rho) {α : Type} (s : Shared) (R : Heap → α → Prop) (v : α) (s' : Shared) : Prop :=
  ∃ h' tk, s' = { s with heap := h', toks := tk } ∧ EExt c s.heap h' ∧ Iv Ω c W ρ h' ∧ R h' v
noncomputable def RQ (c : Ctx) (W : Addr → Prop) (Q : D → Prop) (h' : Heap) (v : Value) : Prop := ∃ d, Rep (fun b => c.O b ∨ W b) h' d v ∧ Q d
noncomputable def Grown (W W' : Addr → Prop) (h : Heap) : Prop := (∀ b, W b → W' b) ∧ ∀ b, W' b → W b ∨ h.get? b = none
theorem Grown.refl (W : Addr → Prop) (h : Heap) : Grown W W h := ⟨fun _ x => x, fun _ x => .inl x⟩
noncomputable def XPost (Ω : Wd) (c : Ctx) (W : Addr → Prop) (s : Shared) (E : Nat → Prop) (v : Value) (s' : Shared) : Prop :=
  ∃ k e h' tk, v = .ref e ∧ s' = { s with heap := h', toks := tk } ∧ E k ∧ Rsd c W Ω.base s.heap k e h' ∧ ∃ W', Grown W W' s.heap ∧ Iv Ω c W' rho0 h'
theorem Iv.forget {Ω : Wd} {c : Ctx} {W : Addr → Prop} {ρ ρ' : Rho} {h : Heap} (I : Iv Ω c W ρ' h) (hs : ∀ j sl, ρ j = some sl → ρ' j = some sl) : Iv Ω c W ρ h := by
  refine ⟨I.keep, I.wabove, I.ns0, I.wL, I.wenv, I.wcell, I.cellL, I.cellIs, I.wF, I.FO, I.there, I.apart, I.frL, I.kind, I.glob, I.blt, I.frs, ?_⟩
  obtain ⟨m, α, hm, hv, hi⟩ := I.vars
  exact ⟨m, α, hm, fun i sl h => hv i sl (hs i sl h), fun i j ds es h1 h2 => hi i j ds es (hs _ _ h1) (hs _ _ h2)⟩
theorem Iv.nought {Ω : Wd} {c : Ctx} {W : Addr → Prop} {ρ : Rho} {h : Heap} (I : Iv Ω c W ρ h) : Iv Ω c W rho0 h := I.forget fun _ _ q => by cases q
noncomputable def EV (Ω : Wd) (n : Nat) (c : Ctx) (e : Expr) (T : TE) : Prop :=
  ∀ (A : Around) (W : Addr → Prop) (ρ : Rho) (Q : D → Prop) (E : Nat → Prop) (s : Shared), AOk c n A → Iv Ω c W ρ s.heap → T ρ Q E →
    wpAny (model Ω.prog Ω.w) A (eval e c.env) (Post Ω c W ρ s (RQ c W Q)) (XPost Ω c W s E) s
noncomputable def TV (Ω : Wd) (n : Nat) (c : Ctx) (e : Expr) (T : TB) : Prop :=
  ∀ (A : Around) (W : Addr → Prop) (ρ : Rho) (Q : Bool → Prop) (E : Nat → Prop) (s : Shared), AOk c n A → Iv Ω c W ρ s.heap → T ρ Q E →
    wpAny (model Ω.prog Ω.w) A (isTrue e c.env (eval e c.env)) (Post Ω c W ρ s (fun _ b => Q b)) (XPost Ω c W s E) s
section
variable {Ω : Wd} {c : Ctx} {W : Addr → Prop} {ρ : Rho} {α β : Type} {A : Around} {s : Shared} {E : Nat → Prop}
theorem XPost.back {s₁ : Shared} {h₁ : Heap} {tk₁ : Nat} (e₁ : s₁ = { s with heap := h₁, toks := tk₁ }) (x : EExt c s.heap h₁) (I : Iv Ω c W ρ h₁) {v : Value} {s' : Shared} (p : XPost Ω c W s₁ E v s') : XPost Ω c W s E v s' := by
  subst e₁
  obtain ⟨k, e, h', tk, hv, hs, hE, R, W', g, J⟩ := p
  have gone : ∀ b, h₁.get? b = none → s.heap.get? b = none := fun b hb => by
    cases q : s.heap.get? b with
    | none => rfl
    | some o =>
      by_cases z : b = c.L
      · subst z
        obtain ⟨o', ho'⟩ := I.there c.L (.inl I.wL)
        rw [hb] at ho'; cases ho'
      · obtain ⟨o', ho', _⟩ := x.ext.more b o z q
        rw [hb] at ho'; cases ho'
  refine ⟨k, e, h', tk, hv, hs, hE, ⟨(x.ext.mono fun b _ _ hb => hb ▸ I.wL).trans R.ext, R.keep, gone e R.new, R.frs, ?_⟩, W', ⟨g.1, fun b w => (g.2 b w).imp id (gone b)⟩, J⟩
  rcases R.exc with q | ⟨oe, vs, T, oT, ts, a1, a2, a3, a4, a5, a6⟩
  · exact .inl q
  · exact .inr ⟨oe, vs, T, oT, ts, a1, a2, a3, a4, gone T a5, a6⟩
noncomputable def Bk (Ω : Wd) (c : Ctx) (W : Addr → Prop) (ρ : Rho) (s s₁ : Shared) : Prop := ∃ h tk, s₁ = { s with heap := h, toks := tk } ∧ EExt c s.heap h ∧ Iv Ω c W ρ h
theorem Bk.iv {s₁ : Shared} (b : Bk Ω c W ρ s s₁) : Iv Ω c W ρ s₁.heap := by obtain ⟨h, tk, rfl, _, I⟩ := b; exact I
theorem Bk.ext {s₁ : Shared} (b : Bk Ω c W ρ s s₁) : EExt c s.heap s₁.heap := by obtain ⟨h, tk, rfl, x, _⟩ := b; exact x
theorem Bk.refl (I : Iv Ω c W ρ s.heap) : Bk Ω c W ρ s s := ⟨s.heap, s.toks, rfl, .refl _ _, I⟩
theorem Bk.trans {s₁ s₂ : Shared} (x : Bk Ω c W ρ s s₁) (y : Bk Ω c W ρ s₁ s₂) : Bk Ω c W ρ s s₂ := by
  obtain ⟨h, tk, rfl, x1, _⟩ := x
  obtain ⟨h', tk', rfl, y1, I⟩ := y
  exact ⟨h', tk', rfl, x1.trans y1, I⟩
theorem Bk.tok {s₁ : Shared} (x : Bk Ω c W ρ s s₁) (t : Nat) : Bk Ω c W ρ s { s₁ with toks := t } := by
  obtain ⟨h, tk, rfl, x1, I⟩ := x
  exact ⟨h, t, rfl, x1, I⟩
theorem Bk.step {s₁ : Shared} (x : Bk Ω c W ρ s s₁) {h' : Heap} (t : Nat) (e : EExt c s₁.heap h') : Bk Ω c W ρ s { s₁ with heap := h', toks := t } := by
  obtain ⟨h, tk, rfl, x1, I⟩ := x
  exact ⟨h', t, rfl, x1.trans e, I.eext e⟩
theorem Bk.xback {s₁ : Shared} (b : Bk Ω c W ρ s s₁) {v : Value} {s' : Shared} (p : XPost Ω c W s₁ E v s') : XPost Ω c W s E v s' := by
  obtain ⟨h, tk, e, x, I⟩ := b
  exact p.back e x I
theorem pb {M : Model} {t : Sem α} {R : Heap → α → Prop} {K : α → Shared → Prop} {s₁ : Shared} (b : Bk Ω c W ρ s s₁)
    (h : wpAny M A t (Post Ω c W ρ s₁ R) (XPost Ω c W s₁ E) s₁) (k : ∀ v s₂, Bk Ω c W ρ s s₂ → EExt c s₁.heap s₂.heap → R s₂.heap v → K v s₂) : wpAny M A t K (XPost Ω c W s E) s₁ := by
  refine wpAny_mono h (fun v s' p => ?_) fun _ _ x => b.xback x
  obtain ⟨h', tk, rfl, x, I, r⟩ := p
  exact k v _ (b.trans ⟨h', tk, rfl, x, I⟩) x r
theorem pf {M : Model} {t : Sem α} {R : Heap → α → Prop} {s₁ : Shared} (b : Bk Ω c W ρ s s₁)
    (h : wpAny M A t (Post Ω c W ρ s₁ R) (XPost Ω c W s₁ E) s₁) : wpAny M A t (Post Ω c W ρ s R) (XPost Ω c W s E) s₁ := by
  refine pb b h fun v s₂ b' _ r => ?_
  obtain ⟨h', tk, e, x, I⟩ := b'
  exact ⟨h', tk, e, x, I, by rw [e] at r; exact r⟩
theorem pl {R : Heap → α → Prop} {v : α} {s₁ : Shared} (b : Bk Ω c W ρ s s₁) (r : R s₁.heap v) : Post Ω c W ρ s R v s₁ := by
  obtain ⟨h', tk, rfl, x, I⟩ := b
  exact ⟨h', tk, rfl, x, I, r⟩
theorem post_here {R : Heap → α → Prop} {v : α} {tk : Nat} (I : Iv Ω c W ρ s.heap) (r : R s.heap v) : Post Ω c W ρ s R v { s with toks := tk } := ⟨s.heap, tk, rfl, .refl _ _, I, r⟩
theorem post_here' {R : Heap → α → Prop} {v : α} (I : Iv Ω c W ρ s.heap) (r : R s.heap v) : Post Ω c W ρ s R v s := ⟨s.heap, s.toks, rfl, .refl _ _, I, r⟩
theorem Rep.eext {O : Addr → Prop} {h h' : Heap} {d : D} {v : Value} (r : Rep O h d v) (x : EExt c h h') (hL : O c.L) : Rep O h' d v := Rep.ext x.ext (fun b hb => hb ▸ hL) (fun _ _ _ z => z) d v r
theorem Reps.eext {O : Addr → Prop} {h h' : Heap} {ds : List D} {vs : List Value} (r : Reps O h ds vs) (x : EExt c h h') (hL : O c.L) : Reps O h' ds vs := Reps.ext x.ext (fun b hb => hb ▸ hL) (fun _ _ _ z => z) ds vs r
end
end Mine
end
section
open PySem PySem.W PyProof.Rows PySem.Calls
set_option Elab.async false
set_option linter.all false
set_option autoImplicit false
set_option maxRecDepth 100000
namespace Mine
section
variable {Ω : Wd} {n : Nat} {c : Ctx}
theorem nm_dbg : ∀ i, i < 39 → (nm i == ("__debug__" : Str)) = false := by decide +kernel
theorem nm_cls : ∀ i, i < 39 → (nm i == ("__classdict__" : Str)) = false := by decide +kernel
noncomputable def tVar (i : Nat) : TE := fun ρ Q _ => ∃ d, ρ i = some (.val d) ∧ Q d
theorem ld_var (i : Nat) {A : Around} {W : Addr → Prop} {ρ : Rho} {Q : D → Prop} {E : Nat → Prop} {s : Shared} (I : Iv Ω c W ρ s.heap) (h : tVar i ρ Q E) :
    i < 39 ∧ wpAny (model Ω.prog Ω.w) A (loadName c.env (nm i)) (Post Ω c W ρ s (RQ c W Q)) (XPost Ω c W s E) s := by
  obtain ⟨d, hd, hq⟩ := h
  obtain ⟨m, α, hm, hv, _⟩ := I.vars
  obtain ⟨hi, v, hat, hr⟩ := hv i _ hd
  refine ⟨hi, ?_⟩
  have fin : Post Ω c W ρ s (RQ c W Q) v s := post_here' I ⟨d, hr, hq⟩
  rcases hat with ⟨hk, hx⟩ | ⟨hk, ad, hc, hx⟩
  · exact wpAny_loadName_local I.kind hk hm hx fin
  · rcases hk with hk | hk
    · exact wpAny_loadName_cell I.kind hk hc hx fin
    · exact wpAny_loadName_free I.kind hk hc hx fin (nm_cls i hi)
theorem ev_var (i : Nat) (pos : Pos) : EV Ω n c (.Name (nm i) pos) (tVar i) := by
  intro A W ρ Q E s a I h
  obtain ⟨hi, hl⟩ := ld_var (A := A) i I h
  exact wpAny_Name hl (nm_dbg i hi)
noncomputable def tLit (d : D) : TE := fun _ Q _ => Q d
theorem ev_int (i : Int) (k : Nat) (pos : Pos) : EV Ω n c (.Constant (.int i) k pos) (tLit (.int i)) := by
  intro A W ρ Q E s a I hq
  exact wpAny_Constant_int (post_here I ⟨.int i, by unfold Rep; exact ⟨_, rfl⟩, hq⟩)
theorem ev_bool (b : Bool) (k : Nat) (pos : Pos) : EV Ω n c (.Constant (.bool b) k pos) (tLit (.bool b)) := by
  intro A W ρ Q E s a I hq
  rw [eval_Constant]
  exact wpAny_pure (post_here' I ⟨.bool b, by unfold Rep; rfl, hq⟩)
theorem ev_str (i : Nat) (h : i < 18) (k : Nat) (pos : Pos) : EV Ω n c (.Constant (.str (tx i)) k pos) (tLit (.str i)) := by
  intro A W ρ Q E s a I hq
  exact Constant_str (post_here I ⟨.str i, by unfold Rep; exact ⟨h, _, rfl⟩, hq⟩)
noncomputable abbrev OpT := D → D → (D → Prop) → (Nat → Prop) → Prop
noncomputable def tBin (f : OpT) (l r : TE) : TE := fun ρ Q E => l ρ (fun a => r ρ (fun b => f a b Q E) E) E
noncomputable def OpOk (Ω : Wd) (n : Nat) (c : Ctx) (op : Value → Value → Sem Value) (f : OpT) : Prop :=
  ∀ (A : Around) (W : Addr → Prop) (ρ : Rho) (Q : D → Prop) (E : Nat → Prop) (s : Shared) (a b : D) (va vb : Value), AOk c n A → Iv Ω c W ρ s.heap →
    Rep (fun b => c.O b ∨ W b) s.heap a va → Rep (fun b => c.O b ∨ W b) s.heap b vb → f a b Q E → wpAny (model Ω.prog Ω.w) A (op va vb) (Post Ω c W ρ s (RQ c W Q)) (XPost Ω c W s E) s
theorem ev_bin {op : Operator} {l r : Expr} {pos : Pos} {tl tr : TE} {f : OpT} (ho : OpOk Ω n c (binaryOp op) f) (hl : EV Ω n c l tl) (hr : EV Ω n c r tr) : EV Ω n c (.BinOp l op r pos) (tBin f tl tr) := by
  intro A W ρ Q E s a I h
  refine wpAny_BinOp (pb (.refl I) (hl A W ρ _ E s a I h) fun va s₁ b₁ _ ⟨d, rd, hd⟩ => ?_)
  refine pb b₁ (hr A W ρ _ E _ a b₁.iv hd) fun vb s₂ b₂ x₂ ⟨e, re, he⟩ => ?_
  exact pf b₂ (ho A W ρ Q E _ d e va vb a b₂.iv (rd.eext x₂ (.inr I.wL)) re he)
theorem ev_cmp {op : CmpOp} {l r : Expr} {pos : Pos} {tl tr : TE} {f : OpT} (ho : OpOk Ω n c (compareOp op) f) (hl : EV Ω n c l tl) (hr : EV Ω n c r tr) (hm : behindInMarks op r = false := by with_unfolding_all rfl) :
    EV Ω n c (.Compare l [op] [r] pos) (tBin f tl tr) := by
  intro A W ρ Q E s a I h
  refine wpAny_Compare1 (pb (.refl I) (hl A W ρ _ E s a I h) fun va s₁ b₁ _ ⟨d, rd, hd⟩ => ?_) hm
  refine pb b₁ (hr A W ρ _ E _ a b₁.iv hd) fun vb s₂ b₂ x₂ ⟨e, re, he⟩ => ?_
  exact pf b₂ (ho A W ρ Q E _ d e va vb a b₂.iv (rd.eext x₂ (.inr I.wL)) re he)
noncomputable def tTest (t : TE) : TB := fun ρ Q E => t ρ (fun d => ∃ b, d = .bool b ∧ Q b) E
theorem tv_cmp {op : CmpOp} {l r : Expr} {pos : Pos} {tl tr : TE} {f : OpT} (ho : OpOk Ω n c (compareOp op) f) (hl : EV Ω n c l tl) (hr : EV Ω n c r tr) (hm : behindInMarks op r = false := by with_unfolding_all rfl) :
    TV Ω n c (.Compare l [op] [r] pos) (tTest (tBin f tl tr)) := by
  intro A W ρ Q E s a I h
  refine wpAny_isTrue_Compare1 (pb (.refl I) (hl A W ρ _ E s a I h) fun va s₁ b₁ _ ⟨d, rd, hd⟩ => ?_) hm
  refine pb b₁ (hr A W ρ _ E _ a b₁.iv hd) fun vb s₂ b₂ x₂ ⟨e, re, he⟩ => ?_
  refine pb b₂ (ho A W ρ _ E _ d e va vb a b₂.iv (rd.eext x₂ (.inr I.wL)) re he) fun vc s₃ b₃ _ ⟨g, rg, hg⟩ => ?_
  obtain ⟨b, rfl, hq⟩ := hg
  unfold Rep at rg
  subst rg
  exact wpAny_truthy_bool (pl b₃ hq)
theorem tv_name {x : Str} {pos : Pos} {t : TE} (h : EV Ω n c (.Name x pos) t) : TV Ω n c (.Name x pos) (tTest t) := by
  intro A W ρ Q E s a I hq
  refine isTrue_plain (pb (.refl I) (h A W ρ _ E s a I hq) fun v s₁ b₁ _ ⟨d, rd, hd⟩ => ?_)
  obtain ⟨b, rfl, hb⟩ := hd
  unfold Rep at rd
  subst rd
  exact wpAny_truthy_bool (pl b₁ hb)
noncomputable def tAnd (l r : TB) : TB := fun ρ Q E => l ρ (fun b => if b then r ρ Q E else Q false) E
noncomputable def tOr (l r : TB) : TB := fun ρ Q E => l ρ (fun b => if b then Q true else r ρ Q E) E
theorem allTrue_one {M : Model} {A : Around} {env : Env} {s : Shared} {op : BoolOp} {x : Expr} {Q : Bool → Shared → Prop} {E : Value → Shared → Prop}
    (h : wpAny M A (isTrue x env (eval x env)) Q E s) : wpAny M A (allTrue op [x] env) Q E s := by
  unfold allTrue
  refine wpAny_bind (wpAny_mono h (fun b s' q => ?_) fun _ _ e => e)
  cases op <;> cases b <;> (dsimp only; first | exact wpAny_pure q | (unfold allTrue; exact wpAny_pure q))
theorem allTrue_and {M : Model} {A : Around} {env : Env} {s : Shared} {x y : Expr} {Q : Bool → Shared → Prop} {E : Value → Shared → Prop}
    (h : wpAny M A (isTrue x env (eval x env)) (fun b s' => if b then wpAny M A (isTrue y env (eval y env)) Q E s' else Q false s') E s) : wpAny M A (allTrue .And [x, y] env) Q E s := by
  unfold allTrue
  refine wpAny_bind (wpAny_mono h (fun b s' q => ?_) fun _ _ e => e)
  cases b
  · exact wpAny_pure q
  · exact allTrue_one q
theorem allTrue_or {M : Model} {A : Around} {env : Env} {s : Shared} {x y : Expr} {Q : Bool → Shared → Prop} {E : Value → Shared → Prop}
    (h : wpAny M A (isTrue x env (eval x env)) (fun b s' => if b then Q true s' else wpAny M A (isTrue y env (eval y env)) Q E s') E s) : wpAny M A (allTrue .Or [x, y] env) Q E s := by
  unfold allTrue
  refine wpAny_bind (wpAny_mono h (fun b s' q => ?_) fun _ _ e => e)
  cases b
  · exact allTrue_one q
  · exact wpAny_pure q
theorem tv_and {l r : Expr} {pos : Pos} {tl tr : TB} (hl : TV Ω n c l tl) (hr : TV Ω n c r tr) : TV Ω n c (.BoolOp .And [l, r] pos) (tAnd tl tr) := by
  intro A W ρ Q E s a I h
  show wpAny _ A (allTrue .And [l, r] c.env) _ _ s
  refine allTrue_and (pb (.refl I) (hl A W ρ _ E s a I h) fun b s₁ b₁ _ q => ?_)
  cases b
  · exact pl b₁ q
  · exact pf b₁ (hr A W ρ _ E _ a b₁.iv q)
theorem tv_or {l r : Expr} {pos : Pos} {tl tr : TB} (hl : TV Ω n c l tl) (hr : TV Ω n c r tr) : TV Ω n c (.BoolOp .Or [l, r] pos) (tOr tl tr) := by
  intro A W ρ Q E s a I h
  show wpAny _ A (allTrue .Or [l, r] c.env) _ _ s
  refine allTrue_or (pb (.refl I) (hl A W ρ _ E s a I h) fun b s₁ b₁ _ q => ?_)
  cases b
  · exact pf b₁ (hr A W ρ _ E _ a b₁.iv q)
  · exact pl b₁ q
noncomputable def tIte (t : TB) (a b : TE) : TE := fun ρ Q E => t ρ (fun v => if v then a ρ Q E else b ρ Q E) E
theorem ev_ite {t a b : Expr} {pos : Pos} {tt : TB} {ta tb : TE} (ht : TV Ω n c t tt) (ha : EV Ω n c a ta) (hb : EV Ω n c b tb) : EV Ω n c (.IfExp t a b pos) (tIte tt ta tb) := by
  intro A W ρ Q E s a I h
  refine IfExp_ (pb (.refl I) (ht A W ρ _ E s a I h) fun v s₁ b₁ _ q => ?_)
  cases v
  · exact pf b₁ (hb A W ρ Q E _ a b₁.iv q)
  · exact pf b₁ (ha A W ρ Q E _ a b₁.iv q)
noncomputable def tNeg (t : TE) : TE := fun ρ Q E => t ρ (fun d => ∃ i, d = .int i ∧ Q (.int (-i))) E
theorem ev_neg {x : Expr} {pos : Pos} {t : TE} (h : EV Ω n c x t) : EV Ω n c (.UnaryOp .USub x pos) (tNeg t) := by
  intro A W ρ Q E s a I hq
  refine UnaryOp_ (pb (.refl I) (h A W ρ _ E s a I hq) fun v s₁ b₁ _ ⟨d, rd, hd⟩ => ?_)
  obtain ⟨i, rfl, hi⟩ := hd
  unfold Rep at rd
  obtain ⟨t', rfl⟩ := rd
  exact neg_int (pl (b₁.tok _) ⟨.int (-i), by unfold Rep; exact ⟨_, rfl⟩, hi⟩)
noncomputable def dSub : OpT := fun a b Q _ => ∃ i j, a = .int i ∧ b = .int j ∧ Q (.int (i - j))
theorem op_sub : OpOk Ω n c (binaryOp .Sub) dSub := by
  intro A W ρ Q E s a b va vb ha I ra rb ⟨i, j, hi, hj, hq⟩
  subst hi hj
  unfold Rep at ra rb
  obtain ⟨t, rfl⟩ := ra; obtain ⟨u, rfl⟩ := rb
  exact sub_int (post_here I ⟨.int _, by unfold Rep; exact ⟨_, rfl⟩, hq⟩)
noncomputable def dFdiv : OpT := fun a b Q E => ∃ i j, a = .int i ∧ b = .int j ∧ j.natAbs.log2 < 9000 ∧ (j = 0 → E 0) ∧ (j ≠ 0 → Q (.int (i.fdiv j)))
noncomputable def dMod : OpT := fun a b Q E => ∃ i j, a = .int i ∧ b = .int j ∧ (j = 0 → E 0) ∧ (j ≠ 0 → Q (.int (i.fmod j)))
theorem raised_new {W : Addr → Prop} {ρ : Rho} {s : Shared} {E : Nat → Prop} {k : Nat} (I : Iv Ω c W ρ s.heap) {h' : Heap} {tk : Nat} {e : Addr} (x : Heap.NewExc s.heap h' e (excN k)) (hE : E k) :
    XPost Ω c W s E (.ref e) { s with heap := h', toks := tk } := by
  have I' := I.eext (.of_keep x.keeps)
  exact ⟨k, e, h', tk, rfl, rfl, hE, ⟨.of_keep fun b o _ q => x.keeps b o q, I'.keep, x.new, I'.frs, .inl x.there⟩, W, .refl _ _, I'.nought⟩
theorem op_fdiv : OpOk Ω n c (binaryOp .FloorDiv) dFdiv := by
  intro A W ρ Q E s a b va vb ha I ra rb ⟨i, j, hi, hj, hl, hz, hq⟩
  subst hi hj
  unfold Rep at ra rb
  obtain ⟨t, rfl⟩ := ra; obtain ⟨u, rfl⟩ := rb
  exact floordiv_int_or ha.hd (fun h0 h' tk e x => raised_new (k := 0) I x (hz h0)) (fun h1 => post_here I ⟨.int _, by unfold Rep; exact ⟨_, rfl⟩, hq h1⟩) (fun _ => .inl (PyProof.noPylong_of_log2 hl))
theorem op_mod : OpOk Ω n c (binaryOp .Mod) dMod := by
  intro A W ρ Q E s a b va vb ha I ra rb ⟨i, j, hi, hj, hz, hq⟩
  subst hi hj
  unfold Rep at ra rb
  obtain ⟨t, rfl⟩ := ra; obtain ⟨u, rfl⟩ := rb
  exact mod_int_or ha.hd (fun h0 h' tk e x => raised_new (k := 0) I x (hz h0)) (fun h1 => post_here I ⟨.int _, by unfold Rep; exact ⟨_, rfl⟩, hq h1⟩)
noncomputable def dPow : OpT := fun a b Q _ => ∃ i j, a = .int i ∧ b = .int j ∧ 0 ≤ j ∧ j ≤ 1000000 ∧ i.natAbs < 2 ^ 64 ∧ Q (.int (i ^ j.toNat))
theorem op_pow : OpOk Ω n c (binaryOp .Pow) dPow := by
  intro A W ρ Q E s a b va vb ha I ra rb ⟨i, j, hi, hj, h1, h2, h3, hq⟩
  subst hi hj
  unfold Rep at ra rb
  obtain ⟨t, rfl⟩ := ra; obtain ⟨u, rfl⟩ := rb
  exact pow_int_small h1 h2 h3 (post_here I ⟨.int _, by unfold Rep; exact ⟨_, rfl⟩, hq⟩)
noncomputable def dShl : OpT := fun a b Q _ => ∃ i j, a = .int i ∧ b = .int j ∧ 0 ≤ j ∧ (Builtin.Int.intBits i : Int) + j ≤ 2 ^ 27 ∧ Q (.int (i * 2 ^ j.toNat))
theorem op_shl : OpOk Ω n c (binaryOp .LShift) dShl := by
  intro A W ρ Q E s a b va vb ha I ra rb ⟨i, j, hi, hj, h1, h2, hq⟩
  subst hi hj
  unfold Rep at ra rb
  obtain ⟨t, rfl⟩ := ra; obtain ⟨u, rfl⟩ := rb
  exact lshift_int h1 h2 (post_here I ⟨.int _, by unfold Rep; exact ⟨_, rfl⟩, hq⟩)
noncomputable def dShr : OpT := fun a b Q _ => ∃ i j, a = .int i ∧ b = .int j ∧ 0 ≤ j ∧ Q (.int (i.fdiv (2 ^ j.toNat)))
theorem op_shr : OpOk Ω n c (binaryOp .RShift) dShr := by
  intro A W ρ Q E s a b va vb ha I ra rb ⟨i, j, hi, hj, h1, hq⟩
  subst hi hj
  unfold Rep at ra rb
  obtain ⟨t, rfl⟩ := ra; obtain ⟨u, rfl⟩ := rb
  exact rshift_int h1 (post_here I ⟨.int _, by unfold Rep; exact ⟨_, rfl⟩, hq⟩)
noncomputable def dAndI : OpT := fun a b Q _ => ∃ i j, a = .int i ∧ b = .int j ∧ Q (.int (Builtin.bitAnd i j))
theorem op_and : OpOk Ω n c (binaryOp .BitAnd) dAndI := by
  intro A W ρ Q E s a b va vb ha I ra rb ⟨i, j, hi, hj, hq⟩
  subst hi hj
  unfold Rep at ra rb
  obtain ⟨t, rfl⟩ := ra; obtain ⟨u, rfl⟩ := rb
  exact and_int (post_here I ⟨.int _, by unfold Rep; exact ⟨_, rfl⟩, hq⟩)
noncomputable def dOrI : OpT := fun a b Q _ => ∃ i j, a = .int i ∧ b = .int j ∧ Q (.int (Builtin.bitOr i j))
theorem op_or : OpOk Ω n c (binaryOp .BitOr) dOrI := by
  intro A W ρ Q E s a b va vb ha I ra rb ⟨i, j, hi, hj, hq⟩
  subst hi hj
  unfold Rep at ra rb
  obtain ⟨t, rfl⟩ := ra; obtain ⟨u, rfl⟩ := rb
  exact or_int (post_here I ⟨.int _, by unfold Rep; exact ⟨_, rfl⟩, hq⟩)
noncomputable def dEq : OpT := fun a b Q _ =>
  (∃ i j, a = .int i ∧ b = .int j ∧ Q (.bool (i == j))) ∨ (∃ i j, a = .str i ∧ b = .str j ∧ Q (.bool (i == j))) ∨ (∃ x y, a = .list (il x) ∧ b = .list (il y) ∧ Q (.bool (decide (x = y))))
noncomputable def dNe : OpT := fun a b Q _ =>
  (∃ i j, a = .int i ∧ b = .int j ∧ Q (.bool (i != j))) ∨ (∃ i j, a = .str i ∧ b = .str j ∧ Q (.bool (i != j))) ∨ (∃ i j, a = .bool i ∧ b = .bool j ∧ Q (.bool (i != j))) ∨ (∃ x y, a = .list (il x) ∧ b = .list (il y) ∧ Q (.bool (!decide (x = y))))
theorem op_eq : OpOk Ω n c (compareOp .Eq) dEq := by
  intro A W ρ Q E s a b va vb ha I ra rb h
  rcases h with ⟨i, j, rfl, rfl, hq⟩ | ⟨i, j, rfl, rfl, hq⟩ | ⟨x, y, rfl, rfl, hq⟩
  · unfold Rep at ra rb
    obtain ⟨t, rfl⟩ := ra; obtain ⟨u, rfl⟩ := rb
    exact eq_int (post_here' I ⟨.bool _, by unfold Rep; rfl, hq⟩)
  · unfold Rep at ra rb
    obtain ⟨hi, t, rfl⟩ := ra; obtain ⟨hj, u, rfl⟩ := rb
    exact eq_str (post_here' I ⟨.bool (i == j), by unfold Rep; rw [tx_eq i hi j hj], hq⟩)
  · unfold Rep at ra rb
    obtain ⟨l, vs, rfl, hl, _, hr⟩ := ra; obtain ⟨l', vs', rfl, hl', _, hr'⟩ := rb
    exact eq_intsK hl hr.toInts hl' hr'.toInts (by have := ha.units; omega) (post_here' I ⟨.bool _, by unfold Rep; rfl, hq⟩)
theorem op_ne : OpOk Ω n c (compareOp .NotEq) dNe := by
  intro A W ρ Q E s a b va vb ha I ra rb h
  rcases h with ⟨i, j, rfl, rfl, hq⟩ | ⟨i, j, rfl, rfl, hq⟩ | ⟨i, j, rfl, rfl, hq⟩ | ⟨x, y, rfl, rfl, hq⟩
  · unfold Rep at ra rb
    obtain ⟨t, rfl⟩ := ra; obtain ⟨u, rfl⟩ := rb
    exact ne_int (post_here' I ⟨.bool _, by unfold Rep; rfl, hq⟩)
  · unfold Rep at ra rb
    obtain ⟨hi, t, rfl⟩ := ra; obtain ⟨hj, u, rfl⟩ := rb
    exact ne_str (post_here' I ⟨.bool (i != j), by unfold Rep; unfold bne; rw [tx_eq i hi j hj], hq⟩)
  · unfold Rep at ra rb
    subst ra rb
    exact ne_bool (post_here' I ⟨.bool _, by unfold Rep; rfl, hq⟩)
  · unfold Rep at ra rb
    obtain ⟨l, vs, rfl, hl, _, hr⟩ := ra; obtain ⟨l', vs', rfl, hl', _, hr'⟩ := rb
    exact ne_intsK hl hr.toInts hl' hr'.toInts (by have := ha.units; omega) (post_here' I ⟨.bool _, by unfold Rep; rfl, hq⟩)
noncomputable def dGe : OpT := fun a b Q _ => ∃ i j, a = .int i ∧ b = .int j ∧ Q (.bool (decide (j ≤ i)))
theorem op_ge : OpOk Ω n c (compareOp .GtE) dGe := by
  intro A W ρ Q E s a b va vb ha I ra rb ⟨i, j, hi, hj, hq⟩
  subst hi hj
  unfold Rep at ra rb
  obtain ⟨t, rfl⟩ := ra; obtain ⟨u, rfl⟩ := rb
  exact ge_int (post_here' I ⟨.bool _, by unfold Rep; rfl, hq⟩)
noncomputable def dGt : OpT := fun a b Q _ => ∃ i j, a = .int i ∧ b = .int j ∧ Q (.bool (decide (j < i)))
theorem op_gt : OpOk Ω n c (compareOp .Gt) dGt := by
  intro A W ρ Q E s a b va vb ha I ra rb ⟨i, j, hi, hj, hq⟩
  subst hi hj
  unfold Rep at ra rb
  obtain ⟨t, rfl⟩ := ra; obtain ⟨u, rfl⟩ := rb
  exact gt_int (post_here' I ⟨.bool _, by unfold Rep; rfl, hq⟩)
end
end Mine
end
section
open PySem PySem.W PyProof.Rows PySem.Calls
set_option Elab.async false
set_option linter.all false
set_option autoImplicit false
set_option maxRecDepth 100000
namespace Mine
section
variable {Ω : Wd} {n : Nat} {c : Ctx}
theorem Iv.fresh {W : Addr → Prop} {ρ : Rho} {h : Heap} (I : Iv Ω c W ρ h) {a : Addr} (e : h.get? a = none) : ¬ (c.O a ∨ W a) := fun q => by
  obtain ⟨o, ho⟩ := I.there a q.symm
  rw [e] at ho; cases ho
theorem get_size (h : Heap) : h.get? h.objs.size = none := Heap.get?_none_of_le (Nat.le_refl _)
theorem Reps.push {O : Addr → Prop} {h : Heap} {ds : List D} {vs : List Value} (r : Reps O h ds vs) (o : Obj) : Reps O (h.push o) ds vs := Reps.ext (W := fun _ => False) (F := fun _ => False) (.push _ _ h o) (fun _ q => q.elim) (fun _ _ _ z => z) ds vs r
theorem rep_list_new {O : Addr → Prop} {h : Heap} {ds : List D} {vs : List Value} {k : Nat} (hf : ¬ O h.objs.size) (r : Reps O h ds vs) : Rep O (h.push (lobj vs k)) (.list ds) (.ref h.objs.size) := by
  unfold Rep
  exact ⟨_, vs, rfl, ⟨_, Heap.get?_push_size _ rfl, rfl, k, rfl⟩, hf, r.push _⟩
theorem rep_tup_new {O : Addr → Prop} {h : Heap} {ds : List D} {vs : List Value} {k : Nat} (hf : ¬ O h.objs.size) (r : Reps O h ds vs) : Rep O (h.push { cls := .type "tuple", data := .seq vs.toArray k }) (.tup ds) (.ref h.objs.size) := by
  unfold Rep
  exact ⟨_, vs, rfl, ⟨_, Heap.get?_push_size _ rfl, rfl, k, rfl⟩, hf, r.push _⟩
noncomputable abbrev TL := Rho → (List D → Prop) → (Nat → Prop) → Prop
noncomputable def RL (c : Ctx) (W : Addr → Prop) (Q : List D → Prop) (h' : Heap) (vs : List Value) : Prop := ∃ ds, Reps (fun b => c.O b ∨ W b) h' ds vs ∧ Q ds
noncomputable def EVs (Ω : Wd) (n : Nat) (c : Ctx) (es : List Expr) (T : TL) : Prop :=
  ∀ (A : Around) (W : Addr → Prop) (ρ : Rho) (Q : List D → Prop) (E : Nat → Prop) (s : Shared) (pos : Pos), AOk c n A → Iv Ω c W ρ s.heap → T ρ Q E →
    wpAny (model Ω.prog Ω.w) A (spliced (backTo pos (starEach es c.env))) (Post Ω c W ρ s (RL c W Q)) (XPost Ω c W s E) s
noncomputable def lNil : TL := fun _ Q _ => Q []
noncomputable def lCons (t : TE) (ts : TL) : TL := fun ρ Q E => t ρ (fun d => ts ρ (fun ds => Q (d :: ds)) E) E
theorem evs_nil : EVs Ω n c [] lNil := by
  intro A W ρ Q E s pos a I h
  exact spliced_nil (post_here' I ⟨[], by unfold Reps; rfl, h⟩)
theorem evs_cons {e : Expr} {es : List Expr} {t : TE} {ts : TL} (h : EV Ω n c e t) (hs : EVs Ω n c es ts) (hst : starEach (e :: es) c.env = (false, eval e c.env) :: starEach es c.env := by with_unfolding_all rfl) : EVs Ω n c (e :: es) (lCons t ts) := by
  intro A W ρ Q E s pos a I hq
  rw [hst]
  refine spliced_cons (pb (.refl I) (h A W ρ _ E s a I hq) fun v s₁ b₁ _ ⟨d, rd, hd⟩ => ?_)
  refine pb b₁ (hs A W ρ _ E s₁ pos a b₁.iv hd) fun vs s₂ b₂ x₂ ⟨ds, rds, hds⟩ => ?_
  exact pl b₂ ⟨d :: ds, by unfold Reps; exact ⟨v, vs, rfl, rd.eext x₂ (.inr I.wL), rds⟩, hds⟩
noncomputable def tList (ts : TL) : TE := fun ρ Q E => ts ρ (fun ds => ds.length ≤ sizeLine ∧ Q (.list ds)) E
theorem ev_list {es : List Expr} {pos : Pos} {ts : TL} (hs : EVs Ω n c es ts) : EV Ω n c (.List es pos) (tList ts) := by
  intro A W ρ Q E s a I hq
  refine List_ (pb (.refl I) (hs A W ρ _ E s pos a I hq) fun vs s₁ b₁ _ ⟨ds, rds, hsz, hds⟩ => ?_)
  refine wpAny_newObj_type (pl (b₁.step _ (.push _ _ _)) ⟨.list ds, rep_list_new (b₁.iv.fresh (get_size _)) rds, hds⟩) ?_
  show vs.toArray.size ≤ sizeLine
  rw [List.size_toArray, rds.length]; exact hsz
noncomputable def tTup (ts : TL) : TE := fun ρ Q E => ts ρ (fun ds => ds.length ≤ sizeLine ∧ Q (.tup ds)) E
theorem ev_tup {es : List Expr} {k : Nat} {pos : Pos} {ts : TL} (hs : EVs Ω n c es ts) : EV Ω n c (.Tuple es k pos) (tTup ts) := by
  intro A W ρ Q E s a I hq
  refine Tuple_ (pb (.refl I) (hs A W ρ _ E s pos a I hq) fun vs s₁ b₁ _ ⟨ds, rds, hsz, hds⟩ => ?_)
  refine wpAny_newObj_type (pl (b₁.step _ (.push _ _ _)) ⟨.tup ds, rep_tup_new (b₁.iv.fresh (get_size _)) rds, hds⟩) ?_
  show vs.toArray.size ≤ sizeLine
  rw [List.size_toArray, rds.length]; exact hsz
noncomputable def dIdx : OpT := fun a b Q _ => ∃ k, b = .int k ∧ -(2 ^ 63 : Int) ≤ k ∧ k < 2 ^ 63 ∧ ((∃ ds j d, a = .list ds ∧ seqIndex? k ds.length = some j ∧ ds[j]? = some d ∧ Q d) ∨ (∃ ds j d, a = .tup ds ∧ seqIndex? k ds.length = some j ∧ ds[j]? = some d ∧ Q d))
theorem getItem_any {prog : Program} {w : World} {A : Around} {s : Shared} {E : Value → Shared → Prop} {Q : Value → Shared → Prop} {l : Addr} {vs : List Value} {k : Int} {u : Tok} {j : Nat} {v : Value}
    (hl : s.heap.IsList l vs.toArray) (h1 : -(2 ^ 63 : Int) ≤ k) (h2 : k < 2 ^ 63) (hj : seqIndex? k vs.length = some j) (hx : vs[j]? = some v) (h : Q v s) : wpAny (model prog w) A (getItem (.ref l) (.int k u)) Q E s := by
  unfold seqIndex? at hj
  by_cases hk : k < 0
  · rw [if_pos hk] at hj; dsimp only at hj
    split at hj
    · rename_i hc
      simp only [Bool.and_eq_true, decide_eq_true_eq] at hc
      cases hj
      refine wpAny_getItem_list_neg hl hk (by rw [List.size_toArray]; omega) h1 ?_ h
      rw [List.size_toArray]; simpa using hx
    · cases hj
  · rw [if_neg hk] at hj; dsimp only at hj
    split at hj
    · cases hj
      exact getItem_listL hl (by omega) h2 hx h
    · cases hj
theorem ev_idx {x i : Expr} {pos : Pos} {tx ti : TE} (hx : EV Ω n c x tx) (hi : EV Ω n c i ti)
    (hs : ∀ (o v : Value), subscripted i false o v = operate [o, v] (getItem o v) := by intro _ _; with_unfolding_all rfl) : EV Ω n c (.Subscript x i pos) (tBin dIdx tx ti) := by
  intro A W ρ Q E s a I hq
  refine Subscript_ (pb (.refl I) (hx A W ρ _ E s a I hq) fun o s₁ b₁ _ ⟨d, rd, hd⟩ => ?_)
  refine pb b₁ (hi A W ρ _ E s₁ a b₁.iv hd) fun v s₂ b₂ x₂ ⟨e, re, he⟩ => ?_
  have rd' := rd.eext x₂ (.inr I.wL)
  obtain ⟨k, rfl, h1, h2, h⟩ := he
  unfold Rep at re
  obtain ⟨t, rfl⟩ := re
  rcases h with ⟨ds, j, d', rfl, hj, hg, hq⟩ | ⟨ds, j, d', rfl, hj, hg, hq⟩
  · unfold Rep at rd'
    obtain ⟨l, vs, rfl, hl, _, hr⟩ := rd'
    obtain ⟨v, hv, hrv⟩ := hr.get hg
    exact tail_any hl.typeIs slot_list_getitem.lookup (getItem_any hl h1 h2 (by rw [hr.length]; exact hj) hv (pl b₂ ⟨d', hrv, hq⟩)) (hs _ _)
  · unfold Rep at rd'
    obtain ⟨l, vs, rfl, hl, _, hr⟩ := rd'
    obtain ⟨v, hv, hrv⟩ := hr.get hg
    exact item_tupleT hl h1 h2 (by rw [hr.length]; exact hj) hv (pl b₂ ⟨d', hrv, hq⟩) (hs _ _)
noncomputable def pickD (ds : List D) (lo hi : Option Int) : List D := (ds.drop (kms_lo lo ds.length)).take (kms_hi hi ds.length - kms_lo lo ds.length)
theorem Reps.pick {O : Addr → Prop} {h : Heap} {ds : List D} {vs : List Value} (r : Reps O h ds vs) (lo hi : Option Int) : Reps O h (pickD ds lo hi) (kms_pick vs lo hi) := by
  unfold pickD kms_pick
  rw [r.length]
  exact (r.drop _).take _
noncomputable abbrev TO := Rho → (Option Int → Prop) → (Nat → Prop) → Prop
noncomputable def EVo (Ω : Wd) (n : Nat) (c : Ctx) (x : Option Expr) (T : TO) : Prop :=
  ∀ (A : Around) (W : Addr → Prop) (ρ : Rho) (Q : Option Int → Prop) (E : Nat → Prop) (s : Shared), AOk c n A → Iv Ω c W ρ s.heap → T ρ Q E →
    wpAny (model Ω.prog Ω.w) A (evalPart x c.env) (Post Ω c W ρ s (fun _ v => ∃ k, IsPart v k ∧ Q k)) (XPost Ω c W s E) s
noncomputable def oNone : TO := fun _ Q _ => Q none
noncomputable def oSome (t : TE) : TO := fun ρ Q E => t ρ (fun d => ∃ i, d = .int i ∧ Q (some i)) E
theorem evo_none : EVo Ω n c none oNone := by
  intro A W ρ Q E s a I hq
  rw [evalPart_none]
  exact wpAny_pure (post_here' I ⟨none, .none, hq⟩)
theorem evo_some {e : Expr} {t : TE} (h : EV Ω n c e t) : EVo Ω n c (some e) (oSome t) := by
  intro A W ρ Q E s a I hq
  rw [evalPart_some]
  refine pb (.refl I) (h A W ρ _ E s a I hq) fun v s₁ b₁ _ ⟨d, rd, i, hi, hd⟩ => ?_
  subst hi
  unfold Rep at rd
  obtain ⟨t', rfl⟩ := rd
  exact pl b₁ ⟨some i, .int i t', hd⟩
noncomputable def tSlice (t : TE) (lo hi : TO) : TE := fun ρ Q E => t ρ (fun d => lo ρ (fun l => hi ρ (fun u => ∃ ds, d = .list ds ∧ ds.length ≤ sizeLine ∧ Q (.list (pickD ds l u))) E) E) E
theorem ev_slice {x : Expr} {lo hi : Option Expr} {p pos : Pos} {tx : TE} {tl tu : TO} (hx : EV Ω n c x tx) (hlo : EVo Ω n c lo tl) (hhi : EVo Ω n c hi tu) : EV Ω n c (.Subscript x (.Slice lo hi none p) pos) (tSlice tx tl tu) := by
  intro A W ρ Q E s a I hq
  refine Subscript_ (pb (.refl I) (hx A W ρ _ E s a I hq) fun o s₁ b₁ _ ⟨d, rd, hd⟩ => ?_)
  refine wpAny_Slice (pb b₁ (hlo A W ρ _ E s₁ a b₁.iv hd) fun vl s₂ b₂ x₂ ⟨l, pl', hl⟩ => ?_)
  refine pb b₂ (hhi A W ρ _ E s₂ a b₂.iv hl) fun vu s₃ b₃ x₃ ⟨u, pu, ds, hds, hsz, hq⟩ => ?_
  subst hds
  have rd' := (rd.eext x₂ (.inr I.wL)).eext x₃ (.inr I.wL)
  rw [evalPart_none]
  refine wpAny_pure ?_
  unfold Rep at rd'
  obtain ⟨ad, vs, rfl, hl, _, hr⟩ := rd'
  have b₄ := b₃.step s₃.toks (.push c s₃.heap { cls := .type "slice", data := .fields #[vl, vu, .none] })
  have hr' : Reps (fun b => c.O b ∨ W b) (s₃.heap.push { cls := .type "slice", data := .fields #[vl, vu, .none] }) ds vs := hr.push _
  have hl' := hl.push { cls := .type "slice", data := .fields #[vl, vu, .none] }
  refine tail_any hl'.typeIs slot_list_getitem.lookup (wpAny_getItem_list_slice hl' (Heap.IsSliceOf.new ..) pl' pu .none (by simp) ?_ (by rw [List.size_toArray, hr.length]; exact hsz)) (by rfl)
  have e : (slicePick vs.toArray l u none) = (kms_pick vs l u).toArray := kms_pick_eq vs.toArray l u
  rw [e]
  exact pl (b₄.step _ (.push _ _ _)) ⟨.list (pickD ds l u), rep_list_new (k := 0) (b₄.iv.fresh (get_size _)) (hr'.pick l u), hq⟩
end
end Mine
end
section
open PySem PySem.W PyProof.Rows PySem.Calls
set_option Elab.async false
set_option linter.all false
set_option autoImplicit false
set_option maxRecDepth 100000
namespace Mine
theorem ns_unique {h : Heap} {a : Addr} {m m' : Str → Option Value} (x : h.Ns a m) (y : h.Ns a m') : m = m' := by
  obtain ⟨o, es, ep, ho, hd, _, hf⟩ := x
  obtain ⟨o', es', ep', ho', hd', _, hf'⟩ := y
  rw [ho] at ho'; cases ho'
  rw [hd] at hd'; cases hd'
  funext z
  rw [← hf, ← hf']
section
variable {Ω : Wd} {n : Nat} {c : Ctx}
theorem Iv.fr {W : Addr → Prop} {ρ : Rho} {h : Heap} (I : Iv Ω c W ρ h) : ∃ m news, Fr Ω.base c.L h m ∧ News Ω.base c.L h news ∧ (∀ h', Fr Ω.base c.L h' m → News Ω.base c.L h' news → EExt c h h') ∧ (∀ b o, b ≠ c.L → Ω.base.get? b = none → h.get? b = some o → (b, o) ∈ news) := by
  obtain ⟨m, hm⟩ := I.ns0
  have F : Fr Ω.base c.L h m := ⟨hm, I.keep, I.wabove _ I.wL⟩
  let g : Nat → Option (Addr × Obj) := fun b => if b ≠ c.L ∧ (Ω.base.get? b).isNone = true then (h.get? b).map (fun o => (b, o)) else none
  have full : ∀ b o, b ≠ c.L → Ω.base.get? b = none → h.get? b = some o → (b, o) ∈ (List.range h.objs.size).filterMap g := fun b o hb q hbo => by
    refine List.mem_filterMap.mpr ⟨b, List.mem_range.mpr (Heap.lt_size hbo), ?_⟩
    simp only [g]
    rw [if_pos ⟨hb, by rw [q]; rfl⟩, hbo]; rfl
  refine ⟨m, (List.range h.objs.size).filterMap g, F, fun p hp => ?_, fun h' F' N' => ⟨.of_keep fun b o hb hbo => ?_, fun m' hm' => ?_⟩, full⟩
  · obtain ⟨b, _, hb⟩ := List.mem_filterMap.mp hp
    simp only [g] at hb
    split at hb
    · rename_i q
      obtain ⟨o, ho, rfl⟩ := Option.map_eq_some_iff.mp hb
      exact ⟨ho, q.1, Option.isNone_iff_eq_none.mp q.2⟩
    · cases hb
  · cases q : Ω.base.get? b with
    | some o' =>
      have e1 := I.keep b o' q
      rw [hbo] at e1; cases e1
      exact F'.keep b _ q
    | none => exact (N' (b, o) (full b o hb q hbo)).1
  · rw [← ns_unique hm hm']; exact F'.ns
theorem ev_top {x : Str} {pos : Pos} {a : Addr} (hx : c.env.kindOf x = some .globalImplicit) (hK : nsIn Ω.K mainGlobals x = some (some (.ref a))) (hd : (x == ("__debug__" : Str)) = false) : EV Ω n c (.Name x pos) (tLit (.ref a)) := by
  intro A W ρ Q E s ha I hq
  refine Name_function_global I.kind hx (loadGlobal_global (env := c.env) (by rw [I.glob]; exact Ω.T.g.keeps I.keep) (mg_of Ω.X Ω.T.g hK) ?_) hd
  exact post_here' I ⟨.ref a, by unfold Rep; rfl, hq⟩
theorem blt_name {A : Around} {W : Addr → Prop} {ρ : Rho} {s : Shared} {x : Str} {pos : Pos} {v : Value} {Q : Value → Shared → Prop} {E : Value → Shared → Prop} (I : Iv Ω c W ρ s.heap) (hx : c.env.kindOf x = some .globalImplicit) (hK : nsIn Ω.K mainGlobals x = some none)
    (hb : bootBuiltins x = some v) (hn : x ≠ "__name__") (hd : (x == ("__debug__" : Str)) = false) (h : Q v s) : wpAny (model Ω.prog Ω.w) A (eval (.Name x pos) c.env) Q E s :=
  Name_function_global I.kind hx (loadGlobal_builtin (env := c.env) (by rw [I.glob]; exact Ω.T.g.keeps I.keep) (mg_none_of Ω.X Ω.T.g hK) (by rw [I.blt]; exact Ω.T.b.keeps I.keep) ((Ω.T.builtins x hn).trans hb) h) hd
noncomputable abbrev FT := List D → (D → Prop) → (Nat → Prop) → Prop
noncomputable def Spec (Ω : Wd) (n : Nat) (f : Value) (τ : FT) : Prop :=
  ∀ (c : Ctx) (A : Around) (W : Addr → Prop) (ρ : Rho) (Q : D → Prop) (E : Nat → Prop) (s : Shared) (ds : List D) (vs : List Value), AOk c n A → c.env = c.fenv → Iv Ω c W ρ s.heap → Reps (fun b => c.O b ∨ W b) s.heap ds vs → τ ds Q E →
    wpAny (model Ω.prog Ω.w) A (call f vs) (Post Ω c W ρ s (RQ c W Q)) (XPost Ω c W s E) s
noncomputable def BSpec (Ω : Wd) (n : Nat) (f : Value) (τ : FT) : Prop :=
  ∀ (c : Ctx) (A : Around) (W : Addr → Prop) (ρ : Rho) (Q : D → Prop) (E : Nat → Prop) (s : Shared) (ds : List D) (vs : List Value), AOk c n A → Iv Ω c W ρ s.heap → Reps (fun b => c.O b ∨ W b) s.heap ds vs → τ ds Q E →
    wpAny (model Ω.prog Ω.w) A (call f vs) (Post Ω c W ρ s (RQ c W Q)) (XPost Ω c W s E) s
noncomputable def tCall (τ : FT) (ts : TL) : TE := fun ρ Q E => ts ρ (fun ds => τ ds Q E) E
theorem ev_call {x : Str} {np pos : Pos} {e : Expr} {es : List Expr} {f : Addr} {τ : FT} {ts : TL} (hfe : c.env = c.fenv) (hx : c.env.kindOf x = some .globalImplicit) (hK : nsIn Ω.K mainGlobals x = some (some (.ref f))) (hd : (x == ("__debug__" : Str)) = false)
    (hk : keepIn Ω.K (.ref f) = true) (hf : Spec Ω n (.ref f) τ) (hs : EVs Ω n c (e :: es) ts)
    (hst : starEach (e :: es) c.env = (false, eval e c.env) :: starEach es c.env := by with_unfolding_all rfl) (hpl : (backTo pos (starEach es c.env)).any (·.1) = false := by with_unfolding_all rfl) :
    EV Ω n c (.Call (.Name x np) (e :: es) [] pos) (tCall τ ts) := by
  intro A W ρ Q E s ha I hq
  refine Call_ (pb (.refl I) (ev_top (n := n) hx hK hd A W ρ (fun d => d = .ref f) E s ha I rfl) fun v s₁ b₁ _ ⟨d, rd, hd⟩ => ?_)
  subst hd
  unfold Rep at rd
  subst rd
  refine callWith_K Ω.X hk (pb b₁ (hs A W ρ _ E s₁ pos ha b₁.iv hq) fun vs s₂ b₂ x₂ ⟨ds, rds, hds⟩ => ?_) hst hpl
  exact ⟨Ω.X.keeps b₂.iv.keep, pf b₂ (hf c A W ρ Q E s₂ ds vs ha hfe b₂.iv rds hds)⟩
theorem ev_call0 {x : Str} {np pos : Pos} {f : Addr} {τ : FT} (hfe : c.env = c.fenv) (hx : c.env.kindOf x = some .globalImplicit) (hK : nsIn Ω.K mainGlobals x = some (some (.ref f))) (hd : (x == ("__debug__" : Str)) = false)
    (hk : keepIn Ω.K (.ref f) = true) (hf : Spec Ω n (.ref f) τ) : EV Ω n c (.Call (.Name x np) [] [] pos) (tCall τ lNil) := by
  intro A W ρ Q E s ha I hq
  refine Call_ (pb (.refl I) (ev_top (n := n) hx hK hd A W ρ (fun d => d = .ref f) E s ha I rfl) fun v s₁ b₁ _ ⟨d, rd, hd⟩ => ?_)
  subst hd
  unfold Rep at rd
  subst rd
  refine callWith_K0 (Ω.X.keeps b₁.iv.keep) hk ?_
  exact pf b₁ (hf c A W ρ Q E s₁ [] [] ha hfe b₁.iv (by unfold Reps; rfl) hq)
structure InstK (Ω : Wd) (a C dx : Addr) (es : List DictEntry) (k : Nat) : Prop where
  obj : Ω.K.lookup a = some ⟨.ref C, some dx, .plain, #[]⟩
  dict : Ω.K.lookup dx = some (dictOf es k)
theorem InstK.at {a C dx : Addr} {es : List DictEntry} {k : Nat} (x : InstK Ω a C dx es k) {h : Heap} (hk : ∀ b o, Ω.base.get? b = some o → h.get? b = some o) : InstAt h a ⟨.ref C, some dx, .plain, #[]⟩ C (some (dictOf es k)) :=
  InstAt.of_K (Ω.X.keeps hk) x.obj x.dict
noncomputable def MethOk (Ω : Wd) (n : Nat) (a : Addr) (name : Str) (τ : FT) : Prop :=
  ∃ C dx es k f, InstK Ω a C dx es k ∧ plainGet Ω.K C name = true ∧ findIn Ω.K (.ref C) name = some (some (.ref f)) ∧ isFn Ω.K (.ref f) = true ∧ getL name es = some none ∧ keepIn Ω.K (.ref f) = true ∧ Spec Ω n (.ref f) τ
noncomputable def tMeth (Ω : Wd) (n : Nat) (name : Str) (t : TE) (ts : TL) : TE := fun ρ Q E => t ρ (fun d => ∃ a τ, d = .ref a ∧ MethOk Ω n a name τ ∧ ts ρ (fun ds => τ (.ref a :: ds) Q E) E) E
theorem ev_meth {o : Expr} {name : Str} {apos pos : Pos} {e : Expr} {es : List Expr} {t : TE} {ts : TL} {pl : Sem Bool} (hfe : c.env = c.fenv) (ho : EV Ω n c o t) (hs : EVs Ω n c (e :: es) ts)
    (he : eval (.Call (.Attribute o name apos) (e :: es) [] pos) c.env = (do
      let ov ← eval o c.env
      standAt apos.atName
      let (f, first) ← holding [ov] (getMethod ov name pl)
      callWith pos f first (backTo pos (starEach (e :: es) c.env)) []) := by with_unfolding_all rfl)
    (hst : starEach (e :: es) c.env = (false, eval e c.env) :: starEach es c.env := by with_unfolding_all rfl) (hpl : (backTo pos (starEach es c.env)).any (·.1) = false := by with_unfolding_all rfl) :
    EV Ω n c (.Call (.Attribute o name apos) (e :: es) [] pos) (tMeth Ω n name t ts) := by
  intro A W ρ Q E s ha I hq
  refine MethodCall_ (pl := pl) (pb (.refl I) (ho A W ρ _ E s ha I hq) fun v s₁ b₁ _ ⟨d, rd, hd⟩ => ?_) he
  obtain ⟨a, τ, rfl, ⟨C, dx, des, k, f, hI, h1, h2, h3, h4, h5, hf⟩, hts⟩ := hd
  unfold Rep at rd
  subst rd
  obtain ⟨m, hm⟩ := b₁.iv.ns0
  refine method_inst (Fr.mk hm b₁.iv.keep (b₁.iv.wabove _ b₁.iv.wL)) Ω.X (hI.at b₁.iv.keep) h1 h2 h3 h4 ?_
  refine callWith_K Ω.X h5 (pb b₁ (hs A W ρ _ E s₁ pos ha b₁.iv hts) fun vs s₂ b₂ x₂ ⟨ds, rds, hds⟩ => ?_) hst hpl
  refine ⟨Ω.X.keeps b₂.iv.keep, pf b₂ (hf c A W ρ Q E s₂ (.ref a :: ds) (.ref a :: vs) ha hfe b₂.iv ?_ hds)⟩
  unfold Reps Rep
  exact ⟨_, _, rfl, rfl, rds⟩
noncomputable def AttrOk (Ω : Wd) (a : Addr) (name : Str) (i : Int) : Prop :=
  ∃ C dx es k attr t, InstK Ω a C dx es k ∧ plainGet Ω.K C name = true ∧ hasDictIn Ω.K C = true ∧ findIn Ω.K (.ref C) name = some attr ∧ noGet Ω.K attr = true ∧ getL name es = some (some (.int i t))
noncomputable def tAttr (Ω : Wd) (name : Str) (t : TE) : TE := fun ρ Q E => t ρ (fun d => ∃ a i, d = .ref a ∧ AttrOk Ω a name i ∧ Q (.int i)) E
theorem ev_attr {x : Str} {xp pos : Pos} {name : Str} {t : TE} (ho : EV Ω n c (.Name x xp) t) : EV Ω n c (.Attribute (.Name x xp) name pos) (tAttr Ω name t) := by
  intro A W ρ Q E s ha I hq
  refine Attribute_name (pb (.refl I) (ho A W ρ _ E s ha I hq) fun v s₁ b₁ _ ⟨d, rd, hd⟩ => ?_)
  obtain ⟨a, i, rfl, ⟨C, dx, des, k, attr, tt, hI, h1, h2, h3, h4, h5⟩, hq⟩ := hd
  unfold Rep at rd
  subst rd
  obtain ⟨m, hm⟩ := b₁.iv.ns0
  exact get_own (Fr.mk hm b₁.iv.keep (b₁.iv.wabove _ b₁.iv.wL)) Ω.X (hI.at b₁.iv.keep) h1 h2 h3 h4 h5 rfl (pl (b₁.tok _) ⟨.int i, by unfold Rep; exact ⟨_, rfl⟩, hq⟩)
end
end Mine
end
section
open PySem PySem.W PyProof.Rows PySem.Calls
set_option Elab.async false
set_option linter.all false
set_option autoImplicit false
set_option maxRecDepth 100000
namespace Mine
section
variable {Ω : Wd} {n : Nat} {c : Ctx}
theorem Iv.newD {W : Addr → Prop} {ρ : Rho} {h : Heap} (I : Iv Ω c W ρ h) {news : List (Addr × Obj)} (full : ∀ b o, b ≠ c.L → Ω.base.get? b = none → h.get? b = some o → (b, o) ∈ news) {a : Addr} (h1 : a ≠ c.L) (h2 : Ω.base.get? a = none) (h3 : ∀ p ∈ news, p.1 < a) : h.get? a = none := by
  cases q : h.get? a with
  | none => rfl
  | some o => exact absurd (h3 _ (full a o h1 h2 q)) (Nat.lt_irrefl _)
noncomputable def dMulL : OpT := fun a b Q _ => ∃ ds j, a = .list ds ∧ b = .int j ∧ -(2 ^ 63 : Int) ≤ j ∧ j < 2 ^ 63 ∧ ds.length * j.toNat ≤ 256 ∧ Q (.list (List.replicate j.toNat ds).flatten)
noncomputable def dMulI : OpT := fun a b Q _ => ∃ i j, a = .int i ∧ b = .int j ∧ IntMulOk i j ∧ Q (.int (i * j))
theorem op_mulI : OpOk Ω n c (binaryOp .Mult) dMulI := by
  intro A W ρ Q E s a b va vb ha I ra rb ⟨i, j, hi, hj, hm, hq⟩
  subst hi hj
  unfold Rep at ra rb
  obtain ⟨t, rfl⟩ := ra; obtain ⟨u, rfl⟩ := rb
  exact mul_int (post_here I ⟨.int _, by unfold Rep; exact ⟨_, rfl⟩, hq⟩) hm
theorem op_mulL : OpOk Ω n c (binaryOp .Mult) dMulL := by
  intro A W ρ Q E s a b va vb ha I ra rb ⟨ds, j, hi, hj, h1, h2, h3, hq⟩
  subst hi hj
  unfold Rep at ra rb
  obtain ⟨l, vs, rfl, hl, _, hr⟩ := ra; obtain ⟨u, rfl⟩ := rb
  obtain ⟨m, news, F, N, back, full⟩ := I.fr
  refine KMa.mul F N hl h1 h2 (by rw [hr.length]; exact h3) rfl fun D h' F' N' hD => ?_
  have x := back h' F' fun p hp => N' p (.tail _ hp)
  have b := Bk.step (.refl I) s.toks x
  refine pl b ⟨.list (List.replicate j.toNat ds).flatten, ?_, hq⟩
  have hDn := N' (D, _) (.head _)
  unfold Rep
  exact ⟨D, (List.replicate j.toNat vs).flatten, rfl, ⟨_, hDn.1, rfl, 0, rfl⟩, I.fresh (I.newD full hDn.2.1 hDn.2.2 hD), (hr.flat _).eext x (.inr I.wL)⟩
noncomputable def dAddI : OpT := fun a b Q _ => ∃ i j, a = .int i ∧ b = .int j ∧ Q (.int (i + j))
noncomputable def dAddL : OpT := fun a b Q _ => ∃ ds es, a = .list ds ∧ b = .list es ∧ ds.length + es.length ≤ sizeLine ∧ Q (.list (ds ++ es))
theorem op_addI : OpOk Ω n c (binaryOp .Add) dAddI := by
  intro A W ρ Q E s a b va vb ha I ra rb ⟨i, j, hi, hj, hq⟩
  subst hi hj
  unfold Rep at ra rb
  obtain ⟨t, rfl⟩ := ra; obtain ⟨u, rfl⟩ := rb
  exact add_int (post_here I ⟨.int _, by unfold Rep; exact ⟨_, rfl⟩, hq⟩)
theorem op_addL : OpOk Ω n c (binaryOp .Add) dAddL := by
  intro A W ρ Q E s a b va vb ha I ra rb ⟨ds, es, hi, hj, hsz, hq⟩
  subst hi hj
  unfold Rep at ra rb
  obtain ⟨l, vs, rfl, hl, _, hr⟩ := ra; obtain ⟨l', vs', rfl, hl', _, hr'⟩ := rb
  obtain ⟨m, news, F, N, back, full⟩ := I.fr
  refine add_lists F N hl hl' (fun h' F' N' => ?_) (by rw [hr.length, hr'.length]; exact hsz)
  have x := back h' F' fun p hp => N' p (.tail _ hp)
  have b := Bk.step (.refl I) s.toks x
  refine pl b ⟨.list (ds ++ es), ?_, hq⟩
  have hDn := N' (_, _) (.head _)
  unfold Rep
  exact ⟨_, vs ++ vs', rfl, ⟨_, hDn.1, rfl, 0, rfl⟩, I.fresh (get_size _), (hr.append hr').eext x (.inr I.wL)⟩
noncomputable def dIn : OpT := fun a b Q _ => ∃ (i : Nat) (is : List Nat), a = .str i ∧ b = .list (is.map D.str) ∧ Q (.bool (is.contains i))
theorem Reps.toStrs {O : Addr → Prop} {h : Heap} : ∀ {is : List Nat} {vs : List Value}, Reps O h (is.map D.str) vs → StrsAre vs (is.map tx) ∧ ∀ i ∈ is, i < 18
  | [], _, r => by
    have r' : Reps O h [] _ := r
    unfold Reps at r'; subst r'; exact ⟨.nil, fun _ h => nomatch h⟩
  | i :: is, _, r => by
    have r' : Reps O h (.str i :: is.map D.str) _ := r
    unfold Reps at r'
    obtain ⟨v, vs', rfl, h1, hrs⟩ := r'
    unfold Rep at h1
    obtain ⟨hi, t, rfl⟩ := h1
    obtain ⟨h2, h3⟩ := Reps.toStrs hrs
    refine ⟨.cons _ t h2, fun j hj => ?_⟩
    rcases List.mem_cons.mp hj with rfl | hj
    · exact hi
    · exact h3 j hj
theorem any_tx {i : Nat} (hi : i < 18) : ∀ {is : List Nat}, (∀ j ∈ is, j < 18) → ((is.map tx).any fun x => x == tx i) = is.contains i
  | [], _ => rfl
  | j :: is, h => by
    rw [List.map_cons, List.any_cons, any_tx hi fun k hk => h k (.tail _ hk), tx_eq j (h j (.head _)) i hi, List.contains_cons]
    congr 1
    exact Bool.beq_comm
theorem op_in : OpOk Ω n c (compareOp .In) dIn := by
  intro A W ρ Q E s a b va vb ha I ra rb ⟨i, is, hi, hj, hq⟩
  subst hi hj
  unfold Rep at ra rb
  obtain ⟨hi, t, rfl⟩ := ra; obtain ⟨l, vs, rfl, hl, _, hr⟩ := rb
  obtain ⟨h1, h2⟩ := hr.toStrs
  exact in_list_strs hl h1 (post_here' I ⟨.bool (is.contains i), by unfold Rep; rw [any_tx hi h2], hq⟩)
theorem ev_bcall {x : Str} {np pos : Pos} {e : Expr} {es : List Expr} {id : String} {τ : FT} {ts : TL} (hx : c.env.kindOf x = some .globalImplicit) (hK : nsIn Ω.K mainGlobals x = some none) (hb : bootBuiltins x = some (.builtin id)) (hn : x ≠ "__name__") (hd : (x == ("__debug__" : Str)) = false)
    (hf : BSpec Ω n (.builtin id) τ) (hs : EVs Ω n c (e :: es) ts)
    (hst : starEach (e :: es) c.env = (false, eval e c.env) :: starEach es c.env := by with_unfolding_all rfl) (hpl : (backTo pos (starEach es c.env)).any (·.1) = false := by with_unfolding_all rfl) :
    EV Ω n c (.Call (.Name x np) (e :: es) [] pos) (tCall τ ts) := by
  intro A W ρ Q E s ha I hq
  refine Call_ (blt_name I hx hK hb hn hd ?_)
  refine callWith_builtin (by rw [hst]; show (false || (backTo pos (starEach es c.env)).any (·.1)) = false; rw [hpl]; rfl) ?_
  have h := hs A W ρ _ E s pos ha I hq
  rw [hst] at h ⊢
  refine evalArgs_plain (pb (.refl I) h fun vs s₂ b₂ x₂ ⟨ds, rds, hds⟩ => ?_)
  exact pf b₂ (hf c A W ρ Q E s₂ ds vs ha b₂.iv rds hds)
theorem ev_tcall {x : Str} {np pos : Pos} {e : Expr} {es : List Expr} {T : String} {τ : FT} {ts : TL} (hx : c.env.kindOf x = some .globalImplicit) (hK : nsIn Ω.K mainGlobals x = some none) (hb : bootBuiltins x = some (.type T)) (hn : x ≠ "__name__") (hd : (x == ("__debug__" : Str)) = false)
    (hf : BSpec Ω n (.type T) τ) (hs : EVs Ω n c (e :: es) ts)
    (hst : starEach (e :: es) c.env = (false, eval e c.env) :: starEach es c.env := by with_unfolding_all rfl) (hpl : (backTo pos (starEach es c.env)).any (·.1) = false := by with_unfolding_all rfl) :
    EV Ω n c (.Call (.Name x np) (e :: es) [] pos) (tCall τ ts) := by
  intro A W ρ Q E s ha I hq
  refine Call_ (blt_name I hx hK hb hn hd ?_)
  refine Pv.callWith_type1 (pb (.refl I) (hs A W ρ _ E s pos ha I hq) fun vs s₂ b₂ x₂ ⟨ds, rds, hds⟩ => ?_) hst hpl
  exact pf b₂ (hf c A W ρ Q E s₂ ds vs ha b₂.iv rds hds)
theorem reps1 {O : Addr → Prop} {h : Heap} {d : D} {vs : List Value} (r : Reps O h [d] vs) : ∃ v, vs = [v] ∧ Rep O h d v := by
  unfold Reps Reps at r
  obtain ⟨v, vs', rfl, h1, rfl⟩ := r
  exact ⟨v, rfl, h1⟩
theorem reps2 {O : Addr → Prop} {h : Heap} {d e : D} {vs : List Value} (r : Reps O h [d, e] vs) : ∃ v w, vs = [v, w] ∧ Rep O h d v ∧ Rep O h e w := by
  unfold Reps at r
  obtain ⟨v, vs', rfl, h1, r⟩ := r
  obtain ⟨w, rfl, h2⟩ := reps1 r
  exact ⟨v, w, rfl, h1, h2⟩
noncomputable def fLen : FT := fun ds Q _ => ∃ es, ds = [.list es] ∧ es.length < 2 ^ 62 ∧ Q (.int es.length)
theorem b_len : BSpec Ω n (.builtin "len") fLen := by
  intro c A W ρ Q E s ds vs ha I r ⟨es, hds, hsz, hq⟩
  subst hds
  obtain ⟨v, rfl, r1⟩ := reps1 r
  unfold Rep at r1
  obtain ⟨l, us, rfl, hl, _, hr⟩ := r1
  refine PyProof.Rows.len_list hl (by rw [List.size_toArray, hr.length]; omega) ?_
  exact pl ((Bk.refl I).tok _) ⟨.int es.length, by unfold Rep; exact ⟨_, by rw [List.size_toArray, hr.length]⟩, hq⟩
noncomputable def fMin2 : FT := fun ds Q _ => ∃ a b, ds = [.int a, .int b] ∧ Q (.int (if b < a then b else a))
theorem b_min2 : BSpec Ω n (.builtin "min") fMin2 := by
  intro c A W ρ Q E s ds vs ha I r ⟨a, b, hds, hq⟩
  subst hds
  obtain ⟨v, w, rfl, r1, r2⟩ := reps2 r
  unfold Rep at r1 r2
  obtain ⟨t, rfl⟩ := r1; obtain ⟨u, rfl⟩ := r2
  refine min_two_ints ha.hd fun h' tk k => ?_
  exact pl (Bk.step (.refl I) tk (.of_keep k)) ⟨.int (if b < a then b else a), by unfold Rep; split <;> exact ⟨_, rfl⟩, hq⟩
noncomputable def fMax2 : FT := fun ds Q _ => ∃ a b, ds = [.int a, .int b] ∧ Q (.int (if b > a then b else a))
theorem b_max2 : BSpec Ω n (.builtin "max") fMax2 := by
  intro c A W ρ Q E s ds vs ha I r ⟨a, b, hds, hq⟩
  subst hds
  obtain ⟨v, w, rfl, r1, r2⟩ := reps2 r
  unfold Rep at r1 r2
  obtain ⟨t, rfl⟩ := r1; obtain ⟨u, rfl⟩ := r2
  refine max_two_ints ha.hd fun h' tk k => ?_
  exact pl (Bk.step (.refl I) tk (.of_keep k)) ⟨.int (if b > a then b else a), by unfold Rep; split <;> exact ⟨_, rfl⟩, hq⟩
noncomputable def fMinL : FT := fun ds Q _ => ∃ ns, ds = [.list (il ns)] ∧ 0 < ns.length ∧ ∀ M, M ∈ ns → (∀ a, a ∈ ns → M ≤ a) → Q (.int M)
theorem b_minL : BSpec Ω n (.builtin "min") fMinL := by
  intro c A W ρ Q E s ds vs ha I r ⟨ns, hds, hne, hq⟩
  subst hds
  obtain ⟨v, rfl, r1⟩ := reps1 r
  unfold Rep at r1
  obtain ⟨l, us, rfl, hl, _, hr⟩ := r1
  obtain ⟨m, news, F, N, back, full⟩ := I.fr
  refine min_list_N ha.hd F N hl hr.toInts hne fun h' M t tk F' N' h1 h2 => ?_
  exact pl (Bk.step (.refl I) tk (back h' F' N')) ⟨.int M, by unfold Rep; exact ⟨_, rfl⟩, hq M h1 h2⟩
noncomputable def fMaxL : FT := fun ds Q _ => ∃ ns, ds = [.list (il ns)] ∧ 0 < ns.length ∧ ∀ M, M ∈ ns → (∀ a, a ∈ ns → a ≤ M) → Q (.int M)
theorem b_maxL : BSpec Ω n (.builtin "max") fMaxL := by
  intro c A W ρ Q E s ds vs ha I r ⟨ns, hds, hne, hq⟩
  subst hds
  obtain ⟨v, rfl, r1⟩ := reps1 r
  unfold Rep at r1
  obtain ⟨l, us, rfl, hl, _, hr⟩ := r1
  obtain ⟨m, news, F, N, back, full⟩ := I.fr
  refine max_list_N ha.hd F N hl hr.toInts hne fun h' M t tk F' N' h1 h2 => ?_
  exact pl (Bk.step (.refl I) tk (back h' F' N')) ⟨.int M, by unfold Rep; exact ⟨_, rfl⟩, hq M h1 h2⟩
noncomputable def fSum : FT := fun ds Q _ => ∃ ns, ds = [.list (il ns)] ∧ Q (.int ns.sum)
theorem b_sum : BSpec Ω n (.builtin "sum") fSum := by
  intro c A W ρ Q E s ds vs ha I r ⟨ns, hds, hq⟩
  subst hds
  obtain ⟨v, rfl, r1⟩ := reps1 r
  unfold Rep at r1
  obtain ⟨l, us, rfl, hl, _, hr⟩ := r1
  obtain ⟨m, news, F, N, back, full⟩ := I.fr
  refine LSm.sum_ints F N ha.hd hl hr.toInts fun h' tk t' F' N' => ?_
  exact pl (Bk.step (.refl I) tk (back h' F' N')) ⟨.int ns.sum, by unfold Rep; exact ⟨_, rfl⟩, hq⟩
end
end Mine
end
section
open PySem PySem.W PyProof.Rows PySem.Calls
set_option Elab.async false
set_option linter.all false
set_option autoImplicit false
set_option maxRecDepth 100000
namespace Mine
inductive Flw where
  | next | brk | cont
  | ret (d : D)
noncomputable abbrev TS := Rho → (Flw → Rho → Prop) → (Nat → Prop) → Prop
noncomputable def FlRep (O : Addr → Prop) (h : Heap) : Flw → Flow → Prop
  | .next, f => f = .next
  | .brk, f => f = .brk
  | .cont, f => f = .cont
  | .ret d, f => ∃ v, f = .ret v ∧ Rep O h d v
noncomputable def SPost (Ω : Wd) (c : Ctx) (W : Addr → Prop) (s : Shared) (Q : Flw → Rho → Prop) (f : Flow) (s' : Shared) : Prop :=
  ∃ W' ρ' h' tk g, s' = { s with heap := h', toks := tk } ∧ Ext W c.F s.heap h' ∧ Grown W W' s.heap ∧ Iv Ω c W' ρ' h' ∧ FlRep c.O h' g f ∧ Q g ρ'
noncomputable def EX (Ω : Wd) (n : Nat) (c : Ctx) (st : Stmt) (T : TS) : Prop :=
  ∀ (A : Around) (W : Addr → Prop) (ρ : Rho) (Q : Flw → Rho → Prop) (E : Nat → Prop) (s : Shared), AOk c n A → Iv Ω c W ρ s.heap → T ρ Q E →
    wpAny (model Ω.prog Ω.w) A (exec st c.env) (SPost Ω c W s Q) (XPost Ω c W s E) s
noncomputable def EXs (Ω : Wd) (n : Nat) (c : Ctx) (st : List Stmt) (T : TS) : Prop :=
  ∀ (A : Around) (W : Addr → Prop) (ρ : Rho) (Q : Flw → Rho → Prop) (E : Nat → Prop) (s : Shared), AOk c n A → Iv Ω c W ρ s.heap → T ρ Q E →
    wpAny (model Ω.prog Ω.w) A (execs st c.env) (SPost Ω c W s Q) (XPost Ω c W s E) s
section
variable {Ω : Wd} {n : Nat} {c : Ctx}
theorem Ext.seq {W W' F : Addr → Prop} {h h₁ h' : Heap} (x : Ext W F h h₁) (g : Grown W W' h) (y : Ext W' F h₁ h') : Ext W F h h' := by
  have off : ∀ b o, ¬ W b → h.get? b = some o → ¬ W' b := fun b o hb e w => (g.2 b w).elim hb fun q => by rw [e] at q; cases q
  exact ⟨fun b o hb e => let ⟨o', e', s⟩ := x.more b o hb e; let ⟨o'', e'', s'⟩ := y.more b o' (off b o hb e) e'; ⟨o'', e'', s.trans s'⟩,
    fun b o hb hf e => y.keep b o (off b o hb e) hf (x.keep b o hb hf e)⟩
theorem gone {W W' : Addr → Prop} {ρ' : Rho} {h h₁ : Heap} {F : Addr → Prop} (x : Ext W F h h₁) (g : Grown W W' h) (I : Iv Ω c W' ρ' h₁) {b : Addr} (e : h₁.get? b = none) : h.get? b = none := by
  cases q : h.get? b with
  | none => rfl
  | some o =>
    by_cases w : W b
    · obtain ⟨o', ho'⟩ := I.there b (.inl (g.1 b w))
      rw [e] at ho'; cases ho'
    · obtain ⟨o', e', _⟩ := x.more b o w q
      rw [e] at e'; cases e'
theorem Grown.seq {W W' W'' : Addr → Prop} {ρ' : Rho} {h h₁ : Heap} {F : Addr → Prop} (x : Ext W F h h₁) (g : Grown W W' h) (I : Iv Ω c W' ρ' h₁) (g' : Grown W' W'' h₁) : Grown W W'' h :=
  ⟨fun b w => g'.1 b (g.1 b w), fun b w => (g'.2 b w).elim (fun w' => g.2 b w') fun e => .inr (gone x g I e)⟩
theorem XPost.sback {W W' : Addr → Prop} {ρ' : Rho} {s : Shared} {h₁ : Heap} {tk₁ : Nat} {E : Nat → Prop} (x : Ext W c.F s.heap h₁) (g : Grown W W' s.heap) (I : Iv Ω c W' ρ' h₁) {v : Value} {s' : Shared}
    (p : XPost Ω c W' { s with heap := h₁, toks := tk₁ } E v s') : XPost Ω c W s E v s' := by
  obtain ⟨k, e, h', tk, hv, hs, hE, R, W'', g', J⟩ := p
  refine ⟨k, e, h', tk, hv, hs, hE, ⟨x.seq g R.ext, R.keep, gone x g I R.new, R.frs, ?_⟩, W'', g.seq x I g', J⟩
  rcases R.exc with q | ⟨oe, vs, T, oT, ts, a1, a2, a3, a4, a5, a6⟩
  · exact .inl q
  · exact .inr ⟨oe, vs, T, oT, ts, a1, a2, a3, a4, gone x g I a5, a6⟩
theorem SPost.sback {W W' : Addr → Prop} {ρ' : Rho} {s : Shared} {h₁ : Heap} {tk₁ : Nat} {Q : Flw → Rho → Prop} (x : Ext W c.F s.heap h₁) (g : Grown W W' s.heap) (I : Iv Ω c W' ρ' h₁) {f : Flow} {s' : Shared}
    (p : SPost Ω c W' { s with heap := h₁, toks := tk₁ } Q f s') : SPost Ω c W s Q f s' := by
  obtain ⟨W'', ρ'', h', tk, gg, hs, x', g', I', r, q⟩ := p
  exact ⟨W'', ρ'', h', tk, gg, hs, x.seq g x', g.seq x I g', I', r, q⟩
theorem sb {M : Model} {A : Around} {α : Type} {t : Sem Flow} {W : Addr → Prop} {s : Shared} {Q : Flw → Rho → Prop} {E : Nat → Prop} {K : Flow → Shared → Prop}
    (h : wpAny M A t (SPost Ω c W s Q) (XPost Ω c W s E) s)
    (k : ∀ f W' ρ' h' tk g, Ext W c.F s.heap h' → Grown W W' s.heap → Iv Ω c W' ρ' h' → FlRep c.O h' g f → Q g ρ' → K f { s with heap := h', toks := tk }) : wpAny M A t K (XPost Ω c W s E) s := by
  refine wpAny_mono h (fun f s' p => ?_) fun _ _ x => x
  obtain ⟨W', ρ', h', tk, g, rfl, x, gr, I, r, q⟩ := p
  exact k f W' ρ' h' tk g x gr I r q
theorem ext_e {W : Addr → Prop} {ρ : Rho} {h h' : Heap} (I : Iv Ω c W ρ h) (x : EExt c h h') : Ext W c.F h h' := x.ext.mono fun b _ _ hb => hb ▸ I.wL
theorem Bk.spost {W : Addr → Prop} {ρ : Rho} {s s₁ : Shared} (b : Bk Ω c W ρ s s₁) (I : Iv Ω c W ρ s.heap) {Q : Flw → Rho → Prop} {f : Flow} {s' : Shared} (p : SPost Ω c W s₁ Q f s') : SPost Ω c W s Q f s' := by
  obtain ⟨h, tk, rfl, x, I'⟩ := b
  exact p.sback (ext_e I x) (.refl _ _) I'
noncomputable def sNil : TS := fun ρ Q _ => Q .next ρ
noncomputable def sCons (t ts : TS) : TS := fun ρ Q E => t ρ (fun f ρ' => match f with | .next => ts ρ' Q E | f => Q f ρ') E
theorem exs_nil : EXs Ω n c [] sNil := by
  intro A W ρ Q E s a I h
  exact wpAny_execs_nil ⟨W, ρ, s.heap, s.toks, .next, rfl, .refl _ _ _, .refl _ _, I, rfl, h⟩
theorem exs_cons {st : Stmt} {rest : List Stmt} {t ts : TS} (h : EX Ω n c st t) (hs : EXs Ω n c rest ts) : EXs Ω n c (st :: rest) (sCons t ts) := by
  intro A W ρ Q E s a I hq
  refine wpAny_execs_cons (sb (α := Unit) (h A W ρ _ E s a I hq) fun f W' ρ' h' tk g x gr I' r q => ?_)
  cases g with
  | next =>
    cases r
    exact wpAny_mono (hs A W' ρ' Q E _ a I' q) (fun _ _ p => p.sback x gr I') fun _ _ p => p.sback x gr I'
  | brk => cases r; exact ⟨W', ρ', h', tk, .brk, rfl, x, gr, I', rfl, q⟩
  | cont => cases r; exact ⟨W', ρ', h', tk, .cont, rfl, x, gr, I', rfl, q⟩
  | ret d => obtain ⟨v, rfl, hr⟩ := r; exact ⟨W', ρ', h', tk, .ret d, rfl, x, gr, I', ⟨v, rfl, hr⟩, q⟩
theorem ext_but {w : Addr} {F : Addr → Prop} {h h' : Heap} (hs : Heap.SameBut w h h') : Ext (fun b => b = w) F h h' := .of_keep fun b o hb e => (hs.2 b hb).trans e
theorem Iv.write {W : Addr → Prop} {ρ ρ' : Rho} {h h' : Heap} {w : Addr} (I : Iv Ω c W ρ h) (hw : W w) (hs : Heap.SameBut w h h') (ht : ∃ o, h'.get? w = some o ∧ ∀ vs, o.data ≠ .fields vs)
    (ns0 : ∃ m, h'.Ns c.L m) (hc : ∀ x ∈ c.env.cells, ∃ v, h'.IsCell x.2 v)
    (vars : ∃ (m : Str → Option Value) (α : Nat → Addr), h'.Ns c.env.locals m ∧ (∀ i sl, ρ' i = some sl → i < 39 ∧ ∃ v, At c.env m h' i v ∧ SlRep (fun b => c.O b ∨ W b) W h' c (α i) sl v) ∧
      ∀ i j ds es, ρ' i = some (.own ds) → ρ' j = some (.own es) → α i = α j → i = j) : Iv Ω c W ρ' h' := by
  refine ⟨fun b o hb => (hs.2 b fun q => (I.base_off hb).1 (q ▸ hw)).trans (I.keep b o hb), I.wabove, ns0, I.wL, I.wenv, I.wcell, I.cellL, hc, I.wF, I.FO, fun b hb => ?_, I.apart, I.frL, I.kind, I.glob, I.blt, fun e he => ?_, vars⟩
  · by_cases q : b = w
    · obtain ⟨o, ho, _⟩ := ht; exact ⟨o, q ▸ ho⟩
    · obtain ⟨o, ho⟩ := I.there b hb; exact ⟨o, (hs.2 b q).trans ho⟩
  · obtain ⟨k, L, o, hf, ho, hd, hab⟩ := I.frs e he
    by_cases q : L = w
    · obtain ⟨o', ho', hd'⟩ := ht; exact ⟨k, L, o', hf, q ▸ ho', hd', hab⟩
    · exact ⟨k, L, o, hf, (hs.2 L q).trans ho, hd, hab⟩
theorem SlRep.write {O W : Addr → Prop} {h h' : Heap} {w a : Addr} {sl : Sl} {v : Value} (hs : Heap.SameBut w h h') (hw : W w) (hwl : w = c.env.locals ∨ w ∈ c.env.cells.map (·.2) ∨ ∀ ds, sl = .own ds → a ≠ w) (r : SlRep (fun b => O b ∨ W b) W h c a sl v) : SlRep (fun b => O b ∨ W b) W h' c a sl v := by
  cases sl with
  | val d => exact Rep.ext (F := fun _ => False) (ext_but hs) (fun b hb => .inr (hb ▸ hw)) (fun _ _ _ z => z) d v r
  | own ds =>
    obtain ⟨h1, h2, hO, h3, h4, h5, vs, k, ho, hrs⟩ := r
    have hne : a ≠ w := by
      rcases hwl with rfl | q | q
      · exact h4
      · obtain ⟨x, hx, rfl⟩ := List.mem_map.mp q
        exact fun z => h5 x hx z.symm
      · exact q ds rfl
    exact ⟨h1, h2, hO, h3, h4, h5, vs, k, (hs.2 a hne).trans ho, Reps.ext (F := fun _ => False) (ext_but hs) (fun b hb => .inr (hb ▸ hw)) (fun _ _ _ z => z) ds vs hrs⟩
theorem upd_some {ρ : Rho} {i j : Nat} {s t : Sl} (h : upd ρ i s j = some t) : (j = i ∧ s = t) ∨ (j ≠ i ∧ ρ j = some t) := by
  unfold upd at h
  split at h
  · rename_i q; cases h; exact .inl ⟨q, rfl⟩
  · rename_i q; exact .inr ⟨q, h⟩
theorem Iv.setLocal {W : Addr → Prop} {ρ : Rho} {h h' : Heap} {m : Str → Option Value} {i : Nat} {d : D} {v : Value} (I : Iv Ω c W ρ h) (hi : i < 39) (hk : c.env.kindOf (nm i) = some .local) (hm : h.Ns c.env.locals m)
    (hn : h'.Ns c.env.locals (fun y => if y = nm i then some v else m y)) (hs : Heap.SameBut c.env.locals h h') (r : Rep (fun b => c.O b ∨ W b) h d v) : Iv Ω c W (upd ρ i (.val d)) h' := by
  obtain ⟨m₀, α, hm₀, hv, hinj⟩ := I.vars
  obtain rfl := ns_unique hm hm₀
  have cells : ∀ {x : Str × Addr} {v : Option Value}, x ∈ c.env.cells → h.IsCell x.2 v → h'.IsCell x.2 v := fun hx hc => hc.sameBut hs (I.cellL _ hx).2
  refine I.write (I.wenv) hs ?_ ?_ (fun x hx => ?_) ⟨_, α, hn, fun j sl hj => ?_, fun a b ds es ha hb => ?_⟩
  · obtain ⟨o, es, ep, ho, hd, _⟩ := hn
    exact ⟨o, ho, fun vs q => by rw [hd] at q; cases q⟩
  · by_cases q : c.env.locals = c.L
    · exact ⟨_, q ▸ hn⟩
    · obtain ⟨m', hm'⟩ := I.ns0
      exact ⟨m', hm'.sameBut hs (Ne.symm q)⟩
  · obtain ⟨v, hv⟩ := I.cellIs x hx; exact ⟨v, cells hx hv⟩
  · rcases upd_some hj with ⟨rfl, rfl⟩ | ⟨hne, hj⟩
    · refine ⟨hi, v, .inl ⟨hk, by simp⟩, ?_⟩
      exact Rep.ext (F := fun _ => False) (ext_but hs) (fun b hb => .inr (hb ▸ I.wenv)) (fun _ _ _ z => z) d v r
    · obtain ⟨hj39, w, hat, hr⟩ := hv j sl hj
      refine ⟨hj39, w, ?_, hr.write hs I.wenv (.inl rfl)⟩
      rcases hat with ⟨k, e⟩ | ⟨k, a, ha, hc⟩
      · exact .inl ⟨k, by
          show (if nm j = nm i then some v else m (nm j)) = some w
          rw [if_neg fun q => hne (nm_inj j hj39 i hi q)]; exact e⟩
      · exact .inr ⟨k, a, ha, cells (mem_of_lookup ha) hc⟩
  · rcases upd_some ha with ⟨_, q⟩ | ⟨_, ha⟩
    · cases q
    · rcases upd_some hb with ⟨_, q⟩ | ⟨_, hb⟩
      · cases q
      · exact hinj a b ds es ha hb
theorem Iv.setCell {W : Addr → Prop} {ρ : Rho} {h h' : Heap} {i : Nat} {ad : Addr} {d : D} {v : Value} (I : Iv Ω c W ρ h) (hi : i < 39) (hk : c.env.kindOf (nm i) = some .cell) (ha : c.env.cells.lookup (nm i) = some ad)
    (hn : h'.IsCell ad (some v)) (hs : Heap.SameBut ad h h') (r : Rep (fun b => c.O b ∨ W b) h d v) : Iv Ω c W (upd ρ i (.val d)) h' := by
  obtain ⟨m, α, hm, hv, hinj⟩ := I.vars
  have hmem := mem_of_lookup ha
  have hw : W ad := I.wcell _ hmem
  have cells : ∀ {x : Str × Addr} {v : Option Value}, x ∈ c.env.cells → x.2 ≠ ad → h.IsCell x.2 v → h'.IsCell x.2 v := fun hx hne hc => hc.sameBut hs hne
  refine I.write hw hs ?_ ?_ (fun x hx => ?_) ⟨m, α, hm.sameBut hs (Ne.symm (I.cellL _ hmem).2), fun j sl hj => ?_, fun a b ds es ha hb => ?_⟩
  · obtain ⟨o, ho, hd⟩ := hn
    exact ⟨o, ho, fun vs q => by rw [hd] at q; cases q⟩
  · obtain ⟨m', hm'⟩ := I.ns0
    exact ⟨m', hm'.sameBut hs (Ne.symm (I.cellL _ hmem).1)⟩
  · by_cases q : x.2 = ad
    · exact ⟨_, q ▸ hn⟩
    · obtain ⟨v, hv⟩ := I.cellIs x hx; exact ⟨v, cells hx q hv⟩
  · rcases upd_some hj with ⟨rfl, rfl⟩ | ⟨hne, hj⟩
    · refine ⟨hi, v, .inr ⟨.inl hk, ad, ha, hn⟩, ?_⟩
      exact Rep.ext (F := fun _ => False) (ext_but hs) (fun b hb => .inr (hb ▸ hw)) (fun _ _ _ z => z) d v r
    · obtain ⟨hj39, w, hat, hr⟩ := hv j sl hj
      refine ⟨hj39, w, ?_, hr.write hs hw (.inr (.inl (List.mem_map_of_mem (f := (·.2)) hmem)))⟩
      rcases hat with ⟨k, e⟩ | ⟨k, a, ha', hc⟩
      · exact .inl ⟨k, e⟩
      · refine .inr ⟨k, a, ha', cells (mem_of_lookup ha') (fun q => hne (nm_inj j hj39 i hi ?_)) hc⟩
        exact name_of_addr I.apart (mem_of_lookup ha') (by rw [show a = ad from q]; exact hmem)
  · rcases upd_some ha with ⟨_, q⟩ | ⟨_, ha⟩
    · cases q
    · rcases upd_some hb with ⟨_, q⟩ | ⟨_, hb⟩
      · cases q
      · exact hinj a b ds es ha hb
noncomputable def Place (c : Ctx) (i : Nat) : Prop := i < 39 ∧ (c.env.kindOf (nm i) = some .local ∨ (c.env.kindOf (nm i) = some .cell ∧ (c.env.cells.lookup (nm i)).isSome = true))
theorem store {W : Addr → Prop} {ρ : Rho} {s : Shared} {i : Nat} {d : D} {v : Value} {A : Around} {M : Model} {E : Value → Shared → Prop} {K : Unit → Shared → Prop} (I : Iv Ω c W ρ s.heap) (hp : Place c i) (r : Rep (fun b => c.O b ∨ W b) s.heap d v)
    (k : ∀ w h' tk, W w → Heap.SameBut w s.heap h' → Iv Ω c W (upd ρ i (.val d)) h' → K () { s with heap := h', toks := tk }) : wpAny M A (storeName c.env (nm i) v) K E s := by
  obtain ⟨hi, hk | ⟨hk, hc⟩⟩ := hp
  · obtain ⟨m, α, hm, _⟩ := I.vars
    exact wpAny_storeName_local hk hm (fun h' hn hs => k _ h' _ I.wenv hs (I.setLocal hi hk hm hn hs r)) (by rw [I.kind]; rfl)
  · obtain ⟨ad, ha⟩ := Option.isSome_iff_exists.mp hc
    obtain ⟨v₀, hv₀⟩ := I.cellIs _ (mem_of_lookup ha)
    exact wpAny_storeName_cell I.kind hk ha hv₀ fun h' hn hs => k _ h' s.toks (I.wcell _ (mem_of_lookup ha)) hs (I.setCell hi hk ha hn hs r)
theorem ext_w {W F : Addr → Prop} {h h' : Heap} {w : Addr} (hw : W w) (hs : Heap.SameBut w h h') : Ext W F h h' := (ext_but hs).mono fun b _ _ q => q ▸ hw
noncomputable def sAssign (i : Nat) (t : TE) : TS := fun ρ Q E => t ρ (fun d => Q .next (upd ρ i (.val d))) E
theorem ex_assign {i : Nat} {np pos : Pos} {x : Expr} {t : TE} (hp : Place c i) (h : EV Ω n c x t) (hs : swapsWith x (some (.Name (nm i) np)) pos.line c.env = pure false := by with_unfolding_all rfl) :
    EX Ω n c (.Assign [.Name (nm i) np] x pos) (sAssign i t) := by
  intro A W ρ Q E s a I hq
  refine wpAny_Assign_Name (pb (.refl I) (h A W ρ _ E s a I hq) fun v s₁ b₁ _ ⟨d, rd, hd⟩ => ?_) hs
  refine store b₁.iv hp rd fun w h' tk hw hsb I' => ?_
  exact b₁.spost I ⟨W, _, h', tk, .next, rfl, ext_w hw hsb, .refl _ _, I', rfl, hd⟩
noncomputable def sRet (t : TE) : TS := fun ρ Q E => t ρ (fun d => Q (.ret d) ρ) E
theorem Rep.weak {O O' : Addr → Prop} {h : Heap} {d : D} {v : Value} (r : Rep O h d v) (k : ∀ b, O' b → O b) : Rep O' h d v := Rep.ext (W := fun _ => False) (F := fun _ => False) (.refl _ _ h) (fun _ q => q.elim) (fun b _ _ => k b) d v r
theorem ex_ret {pos : Pos} {x : Expr} {t : TE} (h : EV Ω n c x t) : EX Ω n c (.Return (some x) pos) (sRet t) := by
  intro A W ρ Q E s a I hq
  refine wpAny_Return_some (pb (.refl I) (h A W ρ _ E s a I hq) fun v s₁ b₁ _ ⟨d, rd, hd⟩ => ?_)
  exact b₁.spost I ⟨W, ρ, s₁.heap, s₁.toks, .ret d, rfl, .refl _ _ _, .refl _ _, b₁.iv, ⟨v, rfl, rd.weak fun _ q => .inl q⟩, hd⟩
noncomputable def sIf (t : TB) (x y : TS) : TS := fun ρ Q E => t ρ (fun b => if b then x ρ Q E else y ρ Q E) E
theorem ex_if {t : Expr} {xs ys : List Stmt} {pos : Pos} {tt : TB} {tx ty : TS} (ht : TV Ω n c t tt) (hx : EXs Ω n c xs tx) (hy : EXs Ω n c ys ty) : EX Ω n c (.If t xs ys pos) (sIf tt tx ty) := by
  intro A W ρ Q E s a I hq
  refine wpAny_If (pb (.refl I) (ht A W ρ _ E s a I hq) fun b s₁ b₁ _ q => ?_)
  have go : ∀ {l : List Stmt} {tl : TS}, EXs Ω n c l tl → tl ρ Q E → wpAny (model Ω.prog Ω.w) A (execs l c.env) (SPost Ω c W s Q) (XPost Ω c W s E) s₁ := fun hl hq =>
    wpAny_mono (hl A W ρ Q E s₁ a b₁.iv hq) (fun _ _ p => b₁.spost I p) fun _ _ p => b₁.xback p
  cases b
  · exact go hy q
  · exact go hx q
noncomputable def sFlow (f : Flw) : TS := fun ρ Q _ => Q f ρ
theorem ex_break {pos : Pos} : EX Ω n c (.Break pos) (sFlow .brk) := by
  intro A W ρ Q E s a I hq
  have e : exec (.Break pos) c.env = (do standAt pos; pure .brk) := rfl
  rw [e]
  exact wpAny_bind (wpAny_standAt (wpAny_pure ⟨W, ρ, s.heap, s.toks, .brk, rfl, .refl _ _ _, .refl _ _, I, rfl, hq⟩))
theorem ex_continue {pos : Pos} : EX Ω n c (.Continue pos) (sFlow .cont) := by
  intro A W ρ Q E s a I hq
  have e : exec (.Continue pos) c.env = (do standAt pos; pure .cont) := rfl
  rw [e]
  exact wpAny_bind (wpAny_standAt (wpAny_pure ⟨W, ρ, s.heap, s.toks, .cont, rfl, .refl _ _ _, .refl _ _, I, rfl, hq⟩))
noncomputable def sAssert (t : TB) : TS := fun ρ Q E => t ρ (fun b => if b then Q .next ρ else E 1) E
theorem ex_assert {t : Expr} {pos : Pos} {tt : TB} (ht : TV Ω n c t tt) : EX Ω n c (.Assert t none pos) (sAssert tt) := by
  intro A W ρ Q E s a I hq
  refine wpAny_Assert_new a.hd (pb (.refl I) (ht A W ρ _ E s a I hq) fun b s₁ b₁ _ q => ?_)
  cases b
  · intro h' e x
    exact b₁.xback (raised_new (k := 1) b₁.iv x q)
  · exact b₁.spost I ⟨W, ρ, s₁.heap, s₁.toks, .next, rfl, .refl _ _ _, .refl _ _, b₁.iv, rfl, q⟩
noncomputable def sAug (i : Nat) (f : OpT) (t : TE) : TS := fun ρ Q E => ∃ d, ρ i = some (.val d) ∧ t ρ (fun e => f d e (fun r => Q .next (upd ρ i (.val r))) E) E
theorem ex_aug {i : Nat} {op : Operator} {np pos : Pos} {x : Expr} {t : TE} {f : OpT} (hp : Place c i) (ho : OpOk Ω n c (inplaceOp op) f) (h : EV Ω n c x t) : EX Ω n c (.AugAssign (.Name (nm i) np) op x pos) (sAug i f t) := by
  intro A W ρ Q E s a I ⟨d, hr, hq⟩
  refine wpAny_AugAssign_Name (pb (.refl I) (ld_var (A := A) (Q := fun e => e = d) i I ⟨d, hr, rfl⟩).2 fun v s₁ b₁ _ ⟨d', rd, hd'⟩ => ?_)
  subst hd'
  refine pb b₁ (h A W ρ _ E s₁ a b₁.iv hq) fun w s₂ b₂ x₂ ⟨e, re, he⟩ => ?_
  refine pb b₂ (ho A W ρ _ E s₂ _ e v w a b₂.iv (rd.eext x₂ (.inr I.wL)) re he) fun r s₃ b₃ _ ⟨g, rg, hg⟩ => ?_
  refine store b₃.iv hp rg fun w h' tk hw hsb I' => ?_
  exact b₃.spost I ⟨W, _, h', tk, .next, rfl, ext_w hw hsb, .refl _ _, I', rfl, hg⟩
theorem op_iadd : OpOk Ω n c (inplaceOp .Add) dAddI := by
  intro A W ρ Q E s a b va vb ha I ra rb ⟨i, j, hi, hj, hq⟩
  subst hi hj
  unfold Rep at ra rb
  obtain ⟨t, rfl⟩ := ra; obtain ⟨u, rfl⟩ := rb
  exact iadd_int (post_here I ⟨.int _, by unfold Rep; exact ⟨_, rfl⟩, hq⟩)
end
end Mine
end
section
open PySem PySem.W PyProof.Rows PySem.Calls
set_option Elab.async false
set_option linter.all false
set_option autoImplicit false
set_option maxRecDepth 100000
namespace Mine
noncomputable def bindR : List Nat → List D → Rho
  | i :: is, d :: ds => upd (bindR is ds) i (.val d)
  | _, _ => rho0
theorem bindL_off (kd : Str → Option NameKind) {x : Str} : ∀ (binds : List (Str × Value)) (m : Str → Option Value), (∀ p ∈ binds, p.1 ≠ x) → bindL kd binds m x = m x
  | [], _, _ => rfl
  | (n, v) :: r, m, h => by
    have hn : n ≠ x := h (n, v) (.head _)
    rw [show bindL kd ((n, v) :: r) m = bindL kd r (if kd n = some .local then fun y => if y = n then some v else m y else m) from rfl, bindL_off kd r _ fun p hp => h p (.tail _ hp)]
    split
    · exact if_neg fun q => hn q.symm
    · rfl
theorem bindC_off (kd : Str → Option NameKind) {x : Str} : ∀ (binds : List (Str × Value)) (m : Str → Option Value), (∀ p ∈ binds, p.1 ≠ x) → bindC kd binds m x = m x
  | [], _, _ => rfl
  | (n, v) :: r, m, h => by
    have hn : n ≠ x := h (n, v) (.head _)
    rw [show bindC kd ((n, v) :: r) m = bindC kd r (if kd n = some .local then m else fun y => if y = n then some v else m y) from rfl, bindC_off kd r _ fun p hp => h p (.tail _ hp)]
    split
    · rfl
    · exact if_neg fun q => hn q.symm
theorem bind_vars {O : Addr → Prop} {h : Heap} (kd : Str → Option NameKind) : ∀ (is : List Nat) (ds : List D) (vs : List Value), is.Nodup → (∀ i ∈ is, i < 39) → Reps O h ds vs → is.length = ds.length →
    ∀ j sl, bindR is ds j = some sl → ∃ d v, sl = .val d ∧ j ∈ is ∧ Rep O h d v ∧ (∀ m, kd (nm j) = some .local → bindL kd ((is.map nm).zip vs) m (nm j) = some v) ∧ (∀ m, kd (nm j) ≠ some .local → bindC kd ((is.map nm).zip vs) m (nm j) = some v)
  | [], [], _, _, _, _, _, j, sl, h => by cases h
  | i :: is, d :: ds, vs, hn, h39, r, hl, j, sl, h => by
    unfold Reps at r
    obtain ⟨v, vs', rfl, hr, hrs⟩ := r
    obtain ⟨hni, hn'⟩ := List.nodup_cons.mp hn
    have offP : ∀ p ∈ (is.map nm).zip vs', p.1 ≠ nm i := fun p hp q => by
      obtain ⟨k, hk, e⟩ := List.mem_map.mp (List.of_mem_zip hp).1
      exact hni (nm_inj k (h39 k (.tail _ hk)) i (h39 i (.head _)) (e.trans q) ▸ hk)
    rcases upd_some h with ⟨rfl, rfl⟩ | ⟨hne, h⟩
    · refine ⟨d, v, rfl, .head _, hr, fun m hk => ?_, fun m hk => ?_⟩
      · show bindL kd ((nm j, v) :: (is.map nm).zip vs') m (nm j) = some v
        rw [show bindL kd ((nm j, v) :: (is.map nm).zip vs') m = bindL kd ((is.map nm).zip vs') (if kd (nm j) = some .local then fun y => if y = nm j then some v else m y else m) from rfl, bindL_off kd _ _ offP, if_pos hk]
        exact if_pos rfl
      · show bindC kd ((nm j, v) :: (is.map nm).zip vs') m (nm j) = some v
        rw [show bindC kd ((nm j, v) :: (is.map nm).zip vs') m = bindC kd ((is.map nm).zip vs') (if kd (nm j) = some .local then m else fun y => if y = nm j then some v else m y) from rfl, bindC_off kd _ _ offP, if_neg hk]
        exact if_pos rfl
    · obtain ⟨d', v', hs, hj, hr', h1, h2⟩ := bind_vars kd is ds vs' hn' (fun k hk => h39 k (.tail _ hk)) hrs (by simpa using hl) j sl h
      exact ⟨d', v', hs, .tail _ hj, hr', fun m hk => h1 _ hk, fun m hk => h2 _ hk⟩
noncomputable def fobj (fd : FuncData) : Obj := { cls := .type "function", data := .func fd }
structure FnK (Ω : Wd) (f : Addr) (fd : FuncData) (is : List Nat) (body : List Stmt) : Prop where
  obj : Ω.K.lookup f = some (fobj fd)
  bodyE : fd.body = .stmts body
  code : codeIn Ω.K fd.code fd.qualname = true
  bind : ∀ vs : List Value, vs.length = is.length → bindArgs fd ⟨vs, []⟩ = pure ((is.map nm).zip vs)
  clo : fd.closure = []
  glob : fd.globals = mainGlobals
  blt : fd.builtins = builtinsNs
  kind : fd.scope.kind = .function
  co : fd.scope.isCoroutine = false
  gen : fd.scope.isGenerator = false
  names : ((cellsFrom 0 fd.scope.names []).map (·.1)).Nodup
  small : ∀ i ∈ is, i < 39
  nodup : is.Nodup
  params : ∀ i ∈ is, fd.scope.names.lookup (nm i) = some .local ∨ fd.scope.names.lookup (nm i) = some .cell
noncomputable def fctx (fd : FuncData) (f L : Addr) (outer : List Env) (O : Addr → Prop) : Ctx := ⟨callEnvC fd L f, callEnvC fd L f, L, outer, O⟩
noncomputable def fSpec (is : List Nat) (t : TS) : FT := fun ds Q E => ds.length = is.length ∧ t (bindR is ds) (fun g _ => ∃ d, g = .ret d ∧ Q d) E
theorem funFrames_of {base B h' : Heap} : ∀ {l : List Env}, (∀ e ∈ l, FrOk base h' e ∧ ∀ L, e.frame = some L → B.get? L = none) → h'.FunFrames B l
  | [], _ => trivial
  | e :: l, h => by
    obtain ⟨⟨hk, L, o, hf, ho, hd, _⟩, hn⟩ := h e (.head _)
    exact ⟨hk, ⟨L, o, hf, hn L hf, ho, hd⟩, funFrames_of fun e' he => h e' (.tail _ he)⟩
theorem funFrames_at {B h' : Heap} : ∀ {l : List Env}, h'.FunFrames B l → ∀ e ∈ l, e.scope.kind ≠ .module ∧ ∃ L o, e.frame = some L ∧ h'.get? L = some o ∧ ∀ vs, o.data ≠ .fields vs := by
  intro l
  induction l with
  | nil => intro _ e hm; cases hm
  | cons e₀ l ih =>
    intro h e hm
    obtain ⟨hk, ⟨L, o, hf, _, ho, hd⟩, hr⟩ := h
    rcases List.mem_cons.mp hm with rfl | m
    · exact ⟨hk, L, o, hf, ho, hd⟩
    · exact ih hr e m
section
variable {Ω : Wd} {n : Nat}
theorem leave_raise {c c' : Ctx} {W W' : Addr → Prop} {ρ : Rho} {A : Around} {s : Shared} {h₀ h' : Heap} {tk : Nat} {E : Nat → Prop} {k : Nat} {e : Addr} {L' : Addr} (a : A.frames = some (c.fenv :: c.outer)) (I : Iv Ω c W ρ s.heap)
    (ho : c'.outer = c.fenv :: c.outer) (hf' : c'.fenv.frame = some L') (hL' : s.heap.objs.size ≤ L') (st : ∀ b o, s.heap.get? b = some o → h₀.get? b = some o) (hW' : ∀ b, W' b → s.heap.objs.size ≤ b) (hE : E k) (R : Rsd c' W' Ω.base h₀ k e h') :
    wpAny (model Ω.prog Ω.w) (A.deeper c'.fenv) (leaving c'.fenv (.ref e)) (fun _ s'' => XPost Ω c W s E (.ref e) s'') (fun e' s'' => XPost Ω c W s E e' s'') { s with heap := h', toks := tk } := by
  let fr : List Addr := (c.fenv :: c.outer).filterMap (·.frame)
  have inF : ∀ ev ∈ c.fenv :: c.outer, ∀ b, ev.frame = some b → b ∈ fr := fun ev hev b hb => List.mem_filterMap.mpr ⟨ev, hev, hb⟩
  have ofF : ∀ b, b ∈ fr → b = c.L ∨ c.F b := fun b hb => by
    obtain ⟨ev, hev, hb⟩ := List.mem_filterMap.mp hb
    cases hev with
    | head => exact .inl (Option.some.inj (hb.symm.trans I.frL))
    | tail _ hev => exact .inr ⟨ev, hev, hb⟩
  let B := hideAll s.heap fr
  have offW : ∀ b o, s.heap.get? b = some o → ¬ W' b := fun b o hb w => absurd (Heap.lt_size hb) (Nat.not_lt.mpr (hW' b w))
  have goneB : ∀ b, h₀.get? b = none → B.get? b = none := fun b hb => by
    cases q : B.get? b with
    | none => rfl
    | some o => rw [st b o (of_hideAll _ q)] at hb; cases hb
  have FF : h'.FunFrames B (c'.fenv :: (c.fenv :: c.outer)) := by
    refine funFrames_of (base := Ω.base) fun ev hev => ⟨R.frs ev (ho ▸ hev), fun L hL => ?_⟩
    cases hev with
    | head =>
      rw [hf'] at hL; cases hL
      exact Heap.get?_none_of_le (by rw [hideAll_size]; exact hL')
    | tail _ hev => exact hideAll_none _ (inF ev hev L hL)
  have stay : B.StaysIn h' := fun b o hb => by
    have hs := of_hideAll _ hb
    refine R.ext.keep b o (offW b o hs) (fun ⟨ev, hev, hf⟩ => ?_) (st b o hs)
    rw [ho] at hev
    rw [show B.get? b = none from hideAll_none _ (inF ev hev b hf)] at hb; cases hb
  have hfr : (A.deeper c'.fenv).frames = some (c'.fenv :: (c.fenv :: c.outer)) := Around.frames_deeper a
  have fin : ∀ h'', Heap.Left B (c'.fenv :: (c.fenv :: c.outer)) e (.type (excN k)) h' h'' → XPost Ω c W s E (.ref e) { s with heap := h'', toks := tk } := fun h'' ⟨k1, k2, k3, k4⟩ => by
    have up : ∀ b o, s.heap.get? b = some o → b ∉ fr → h''.get? b = some o := fun b o hb hn => k1 b o (hideAll_get _ hb hn)
    have k2' := funFrames_at k2
    have mo : ∀ b o, s.heap.get? b = some o → ∃ o', h''.get? b = some o' ∧ Same1 o o' := fun b o hs => by
      by_cases q : b ∈ fr
      · obtain ⟨o', ho', s1⟩ := R.ext.more b o (offW b o hs) (st b o hs)
        obtain ⟨ev, hev, hfe⟩ := List.mem_filterMap.mp q
        obtain ⟨_, L, oL, hfL, hoL, hdL, _⟩ := R.frs ev (ho ▸ .tail _ hev)
        rw [hfe] at hfL; cases hfL
        rw [ho'] at hoL; cases hoL
        obtain ⟨sl, hsl⟩ := k4 b o' ho' hdL
        exact ⟨_, hsl, s1.trans ⟨sl, rfl⟩⟩
      · exact ⟨o, up b o hs q, .refl o⟩
    have EE : EExt c s.heap h'' := ⟨⟨fun b o _ hs => mo b o hs, fun b o h1 h2 hs => up b o hs fun q => (ofF b q).elim h1 h2⟩, fun m hm => by
      obtain ⟨o, es, ep, ho, hd, r⟩ := hm
      obtain ⟨o', ho', s1⟩ := mo _ o ho
      exact ⟨o', es, ep, ho', s1.data.trans hd, r⟩⟩
    refine ⟨k, e, h'', tk, rfl, rfl, hE, ⟨⟨fun b o hb hs => mo b o hs, fun b o hb hf hs => up b o hs fun q => ?_⟩, fun b o hb => up b o (I.keep b o hb) fun q => ?_, ?_, fun ev hev => ?_, .inr ?_⟩, W, .refl _ _, (I.eext EE).nought⟩
    · rcases ofF b q with rfl | q
      · exact hb I.wL
      · exact hf q
    · rcases ofF b q with rfl | q
      · exact (I.base_off hb).1 I.wL
      · exact (I.base_off hb).2 q
    · cases q : s.heap.get? e with
      | none => rfl
      | some o => have := R.new; rw [st e o q] at this; cases this
    · obtain ⟨hk, L, o, hf, ho', hd⟩ := k2' ev (.tail _ hev)
      obtain ⟨_, L₂, _, hf₂, _, _, hab⟩ := I.frs ev hev
      rw [hf] at hf₂; cases hf₂
      exact ⟨hk, L, o, hf, ho', hd, hab⟩
    · obtain ⟨oe, vs, T, oT, ts, a1, a2, a3, a4, a5, a6, a7, a8, a9⟩ := k3
      refine ⟨oe, vs, T, oT, ts, a1, a2, a3, a4, ?_, a6, a7, a8, a9⟩
      cases q : s.heap.get? T with
      | none => rfl
      | some o =>
        by_cases z : T ∈ fr
        · obtain ⟨ev, hev, hfe⟩ := List.mem_filterMap.mp z
          obtain ⟨_, L, oL, hfL, hoL, hdL⟩ := k2' ev (.tail _ hev)
          rw [hfe] at hfL; cases hfL
          rw [a7] at hoL; cases hoL
          exact absurd a8 (hdL _)
        · rw [show B.get? T = some o from hideAll_get _ q z] at a5; cases a5
  have hen : B.get? e = none := goneB e R.new
  rcases R.exc with ⟨ob, t, hob, hcls, hd⟩ | hT
  · exact wpAny_leaving_first hfr FF hf' hob stay hen hd rfl fun h'' hl => fin h'' (hcls ▸ hl)
  · obtain ⟨oe, vs, T, oT, ts, a1, a2, a3, a4, a5, r⟩ := hT
    exact wpAny_leaving_next hfr FF hf' ⟨oe, vs, T, oT, ts, a1, a2, a3, a4, goneB T a5, r⟩ stay hen fun h'' hl => fin h'' hl
theorem fn_setup {c : Ctx} {W : Addr → Prop} {ρ : Rho} {s s₁ : Shared} {ds : List D} {vs : List Value} {f : Addr} {fd : FuncData} {is : List Nat} {body : List Stmt} (K : FnK Ω f fd is body) (I : Iv Ω c W ρ s.heap) (rv : Reps (fun b => c.O b ∨ W b) s.heap ds vs) (hlen : ds.length = is.length)
    (x : InCallC s (callEnvC fd s.heap.objs.size f).locals (bindL (callEnvC fd s.heap.objs.size f).kindOf ((is.map nm).zip vs) fun _ => none) (callEnvC fd s.heap.objs.size f).cells (bindC (callEnvC fd s.heap.objs.size f).kindOf ((is.map nm).zip vs) fun _ => none) s₁) :
    ∃ W', Iv Ω (fctx fd f s.heap.objs.size (c.fenv :: c.outer) (fun b => c.O b ∨ W b)) W' (bindR is ds) s₁.heap ∧
      (∀ (Qd : D → Prop) fl s', SPost Ω (fctx fd f s.heap.objs.size (c.fenv :: c.outer) (fun b => c.O b ∨ W b)) W' s₁ (fun g _ => ∃ d, g = .ret d ∧ Qd d) fl s' → Post Ω c W ρ s (RQ c W Qd) (match fl with | .ret v => v | _ => .none) s') ∧ (∀ b, W' b → s.heap.objs.size ≤ b) ∧ ∀ b o, s.heap.get? b = some o → s₁.heap.get? b = some o := by
  have nL : Ω.base.objs.size ≤ s.heap.objs.size := by
    obtain ⟨o, hoL⟩ := I.there c.L (.inl I.wL)
    exact Nat.le_of_lt (Nat.lt_of_le_of_lt (I.wabove _ I.wL) (Heap.lt_size hoL))
  generalize hL : s.heap.objs.size = L at x ⊢
  let c' := fctx fd f L (c.fenv :: c.outer) (fun b => c.O b ∨ W b)
  have henv : c'.env = callEnvC fd L f := rfl
  have hnd : (c'.env.cells.map (·.1)).Nodup := by
    have := K.names
    rw [cellsFrom_names fd.scope.names 0 (L + 1) [] [] rfl] at this
    exact this
  have cellAt : ∀ y ∈ c'.env.cells, s₁.heap.IsCell y.2 (bindC (callEnvC fd L f).kindOf ((is.map nm).zip vs) (fun _ => none) y.1) ∧ L < y.2 := fun y hy =>
    ⟨x.cell _ _ (lookup_of_mem_nodup hnd hy), x.above _ _ hy⟩
  obtain ⟨h₁, tk₁, rfl⟩ := x.toInCall.same
  have st : ∀ b o, s.heap.get? b = some o → h₁.get? b = some o := x.toInCall.keep
  let W' : Addr → Prop := fun b => b = L ∨ ∃ y ∈ c'.env.cells, y.2 = b
  have aboveW : ∀ b, W' b → L ≤ b := fun b hb => by
    rcases hb with rfl | ⟨y, hy, rfl⟩
    · exact Nat.le_refl _
    · exact Nat.le_of_lt (cellAt y hy).2
  have newW : ∀ b o, W' b → s.heap.get? b = some o → False := fun b o hb e => absurd (Heap.lt_size e) (Nat.not_lt.mpr (hL ▸ aboveW b hb))
  have frAll : ∀ ev ∈ c.fenv :: c.outer, FrOk Ω.base h₁ ev := fun ev hev => by
    obtain ⟨hk, L₂, o, hf, ho, hd, hab⟩ := I.frs ev hev
    exact ⟨hk, L₂, o, hf, st _ _ ho, hd, hab⟩
  have I' : Iv Ω c' W' (bindR is ds) h₁ := by
    refine ⟨fun b o e => st b o (I.keep b o e), fun b hb => Nat.le_trans (hL ▸ nL) (aboveW b hb), ⟨_, x.toInCall.ns⟩, .inl rfl, .inl rfl, fun y hy => .inr ⟨y, hy, rfl⟩, fun y hy => ?_, fun y hy => ⟨_, (cellAt y hy).1⟩, fun b hb ⟨ev, hev, hf⟩ => ?_, fun b ⟨ev, hev, hf⟩ => ?_, fun b hb => ?_, x.apart, rfl, K.kind, K.glob, K.blt, fun ev hev => ?_, ?_⟩
    · have := (cellAt y hy).2
      have h1 : c'.L = L := rfl
      have h2 : c'.env.locals = L := rfl
      rw [h1, h2]
      exact ⟨Nat.ne_of_gt this, Nat.ne_of_gt this⟩
    · obtain ⟨_, L₂, o, hf₂, ho₂, _⟩ := I.frs ev hev
      rw [hf] at hf₂; cases hf₂
      exact newW b o hb ho₂
    · rcases List.mem_cons.mp hev with rfl | hev
      · exact .inr ((Option.some.inj (hf.symm.trans I.frL) : b = c.L) ▸ I.wL)
      · exact .inl (I.FO b ⟨ev, hev, hf⟩)
    · rcases hb with (rfl | ⟨y, hy, rfl⟩) | hb
      · obtain ⟨o, _, _, ho, _⟩ := x.toInCall.ns
        exact ⟨o, ho⟩
      · obtain ⟨o, ho, _⟩ := (cellAt y hy).1
        exact ⟨o, ho⟩
      · obtain ⟨o, ho⟩ := I.there b hb.symm
        exact ⟨o, st _ _ ho⟩
    · cases hev with
      | head =>
        obtain ⟨o, es, ep, ho, hd, _⟩ := x.toInCall.ns
        exact ⟨(by show fd.scope.kind ≠ .module; rw [K.kind]; decide), L, o, rfl, ho, (fun vs q => by rw [hd] at q; cases q), hL ▸ nL⟩
      | tail _ hev => exact frAll ev hev
    · have rv' : Reps (fun b => (c.O b ∨ W b) ∨ W' b) h₁ ds vs := Reps.ext (W := fun _ => False) (F := fun _ => False) (.of_keep fun b o _ e => st b o e) (fun _ q => q.elim) (fun b o e q => q.elim id fun w => (newW b o w e).elim) ds vs rv
      refine ⟨_, fun _ => 0, x.toInCall.ns, fun j sl hj => ?_, fun i j ds' es hi => ?_⟩
      · obtain ⟨d, v, rfl, hji, hr, h1, h2⟩ := bind_vars (callEnvC fd L f).kindOf is ds vs K.nodup K.small rv' hlen.symm j sl hj
        refine ⟨K.small j hji, v, ?_, hr⟩
        rcases K.params j hji with q | q
        · exact .inl ⟨q, h1 _ q⟩
        · obtain ⟨ad, had⟩ := Option.isSome_iff_exists.mp (cellsFrom_some fd.scope.names (L + 1) [] (.inl q))
          have hnl : (callEnvC fd L f).kindOf (nm j) ≠ some .local := fun z => by
            have : (callEnvC fd L f).kindOf (nm j) = some .cell := q
            rw [this] at z; cases z
          exact .inr ⟨.inl q, ad, had, by have := x.cell _ _ had; rwa [h2 _ hnl] at this⟩
      · obtain ⟨_, _, q, _⟩ := bind_vars (callEnvC fd L f).kindOf is ds vs K.nodup K.small rv' hlen.symm i _ hi
        cases q
  refine ⟨W', I', fun Qd fl s' p => ?_, fun b hb => hL ▸ aboveW b hb, st⟩
  obtain ⟨W'', ρ'', h₂, tk₂, g, rfl, x2, g2, I2, r2, d, rfl, hd⟩ := p
  obtain ⟨v, rfl, hr⟩ := r2
  have offF : ∀ b, ¬ b = c.L → ¬ c.F b → ¬ c'.F b := fun b h1 h2 ⟨ev, hev, hf⟩ => by
    cases hev with
    | head => exact h1 (Option.some.inj (hf.symm.trans I.frL))
    | tail _ hev => exact h2 ⟨ev, hev, hf⟩
  have E' : EExt c s.heap h₂ := by
    refine ⟨⟨fun b o _ e => x2.more b o (fun w => newW b o w e) (st b o e), fun b o h1 h2 e => x2.keep b o (fun w => newW b o w e) (offF b h1 h2) (st b o e)⟩, fun m hm => ?_⟩
    have hLW : ¬ W' c.L := fun w => by obtain ⟨o, ho⟩ := I.there c.L (.inl I.wL); exact newW _ _ w ho
    exact Ns.ext (hm.keeps st) x2 hLW
  exact ⟨h₂, tk₂, rfl, E', I.eext E', d, hr, hd⟩
theorem spec_fn {f : Addr} {fd : FuncData} {is : List Nat} {body : List Stmt} {t : TS} (K : FnK Ω f fd is body)
    (hb : ∀ L outer O, EXs Ω n (fctx fd f L outer O) body t) : Spec Ω (n + 1) (.ref f) (fSpec is t) := by
  intro c A W ρ Q E s ds vs a hcf I rv ⟨hlen, hq⟩
  have ho := (Ω.X.keeps I.keep) _ _ K.obj
  refine wpAny_call (codeAny_call_cells (fd := fd) (binds := (is.map nm).zip vs) (by have := a.depth; omega) ho rfl (Ω.T.nolimit.keeps I.keep) (codeRec_of (Ω.X.keeps I.keep) K.code) K.bodyE (K.bind vs (by rw [rv.length, hlen])) K.clo ?_ ?_ K.co K.gen K.kind)
  · intro x hx
    obtain ⟨i, hi, e⟩ := List.mem_map.mp (List.of_mem_zip hx).1
    rcases K.params i hi with q | q
    · exact .inl (e ▸ q)
    · exact .inr (e ▸ ⟨q, cellsFrom_some _ _ _ (.inl q)⟩)
  intro s₁ x
  obtain ⟨W', I', back, above, st⟩ := fn_setup K I rv hlen x
  have a' : AOk (fctx fd f s.heap.objs.size (c.fenv :: c.outer) (fun b => c.O b ∨ W b)) n (A.deeper (callEnvC fd s.heap.objs.size f)) := ⟨a.hd, Around.frames_deeper a.frames, by have := a.depth; show A.depth + 1 + 60 + n < _; omega, by have := a.units; show A.units + 3 + 100 + 8 * n < _; omega⟩
  obtain ⟨h₁, tk₁, rfl⟩ := x.toInCall.same
  refine wpAny_mono (hb _ _ _ (A.deeper (callEnvC fd s.heap.objs.size f)) W' _ _ E _ a' I' hq) (fun fl s' p => back Q fl s' p) fun v s' p => ?_
  obtain ⟨k, e, h₂, tk₂, rfl, rfl, hE, R, _⟩ := p
  exact leave_raise (c' := fctx fd f s.heap.objs.size (c.fenv :: c.outer) (fun b => c.O b ∨ W b)) a.frames I rfl rfl (Nat.le_refl _) st above hE R
end
end Mine
end
section
open PySem PySem.W PyProof.Rows PySem.Calls
set_option Elab.async false
set_option linter.all false
set_option autoImplicit false
set_option maxRecDepth 100000
namespace Mine
section
variable {Ω : Wd} {n : Nat} {c : Ctx}
inductive NmE : List Nat → List Expr → Prop where
  | nil : NmE [] []
  | cons (i : Nat) {is : List Nat} {es : List Expr} {pos : Pos} : NmE is es → NmE (i :: is) (.Name (nm i) pos :: es)
noncomputable def updL : Rho → List Nat → List D → Rho
  | ρ, i :: is, d :: ds => updL (upd ρ i (.val d)) is ds
  | ρ, _, _ => ρ
theorem nme_len {env : Env} : ∀ {is : List Nat} {es : List Expr}, NmE is es → (assignEach es env).length = is.length ∧ (assignEach es env).findIdx? (·.1) = none
  | _, _, .nil => ⟨rfl, rfl⟩
  | i :: is, _, .cons (es := es) (pos := pos) _ r => by
    obtain ⟨h1, h2⟩ := nme_len (env := env) r
    have e : assignEach (.Name (nm i) pos :: es) env = (false, assign (.Name (nm i) pos) env) :: assignEach es env := rfl
    rw [e]
    exact ⟨by rw [List.length_cons, h1]; rfl, by rw [List.findIdx?_cons]; simp only [Bool.false_eq_true, if_false]; rw [h2]; rfl⟩
theorem nme_assign {M : Model} {A : Around} {E : Value → Shared → Prop} {K : Unit → Shared → Prop} {W : Addr → Prop} : ∀ {is : List Nat} {es : List Expr} {ds : List D} {vs : List Value} {ρ : Rho} {s : Shared}, NmE is es → (∀ i ∈ is, Place c i) → ds.length = is.length →
    Iv Ω c W ρ s.heap → Reps (fun b => c.O b ∨ W b) s.heap ds vs → (∀ h' tk, Ext W (fun _ => False) s.heap h' → Iv Ω c W (updL ρ is ds) h' → K () { s with heap := h', toks := tk }) →
    wpAny M A (assignInOrder ((assignEach es c.env).map (·.2)) vs) K E s
  | _, _, ds, vs, ρ, s, .nil, _, hl, I, r, k => by
    cases ds with
    | cons d ds => cases hl
    | nil => exact assignInOrder_nil (k s.heap s.toks (.refl _ _ _) I)
  | i :: is, _, ds, vs, ρ, s, .cons (es := es) (pos := pos) _ hr, hp, hl, I, r, k => by
    cases ds with
    | nil => cases hl
    | cons d ds =>
      unfold Reps at r
      obtain ⟨v, vs', rfl, r1, rs⟩ := r
      have e : assignEach (.Name (nm i) pos :: es) c.env = (false, assign (.Name (nm i) pos) c.env) :: assignEach es c.env := rfl
      rw [e]
      refine assignInOrder_cons (assign_Name (store I (hp i (.head _)) r1 fun w h' tk hw hsb I' => ?_))
      refine nme_assign hr (fun j hj => hp j (.tail _ hj)) (by simpa using hl) I' (Reps.ext (F := fun _ => False) (ext_but hsb) (fun b hb => .inr (hb ▸ hw)) (fun _ _ _ z => z) ds vs' rs) fun h'' tk' x I'' => ?_
      exact k h'' tk' ((ext_w hw hsb).trans x) I''
noncomputable def sAssignTup (is : List Nat) (t : TE) : TS := fun ρ Q E => t ρ (fun d => ∃ ds, d = .tup ds ∧ ds.length = is.length ∧ Q .next (updL ρ is ds)) E
theorem extBut_e {W : Addr → Prop} {ρ : Rho} {s : Shared} {h' : Heap} (he : Heap.ExtBut s.heap.objs.size s.heap h') : EExt c s.heap h' := .of_keep fun b o e => he b o (Nat.ne_of_lt (Heap.lt_size e)) e
theorem assign_tup {A : Around} {E : Value → Shared → Prop} {K : Unit → Shared → Prop} {W : Addr → Prop} {is : List Nat} {es : List Expr} {ds : List D} {v : Value} {ρ : Rho} {s : Shared} {k : Nat} {pos : Pos} (hh : A.handled = none) (hn : NmE is es) (hp : ∀ i ∈ is, Place c i) (hl : ds.length = is.length)
    (I : Iv Ω c W ρ s.heap) (r : Rep (fun b => c.O b ∨ W b) s.heap (.tup ds) v) (K' : ∀ h' tk, Ext W c.F s.heap h' → Iv Ω c W (updL ρ is ds) h' → K () { s with heap := h', toks := tk }) :
    wpAny (model Ω.prog Ω.w) A (assign (.Tuple es k pos) c.env v) K E s := by
  unfold Rep at r
  obtain ⟨a, vs, rfl, ht, _, hr⟩ := r
  obtain ⟨h1, h2⟩ := nme_len (env := c.env) hn
  refine assign_Tuple_tuple hh ht (by rw [h1, List.size_toArray, hr.length, hl]) h2 fun h' he => ?_
  have x : EExt c s.heap h' := extBut_e (W := W) (ρ := ρ) he
  refine nme_assign (s := { s with heap := h' }) hn hp hl (I.eext x) (hr.eext x (.inr I.wL)) fun h'' tk y I' => ?_
  exact K' h'' tk ((ext_e I x).trans ⟨fun b o hb e => y.more b o hb e, fun b o hb _ e => y.keep b o hb (fun q => q) e⟩) I'
theorem ex_assignTup {is : List Nat} {es : List Expr} {k : Nat} {tp pos : Pos} {x : Expr} {t : TE} (hn : NmE is es) (hp : ∀ i ∈ is, Place c i) (h : EV Ω n c x t)
    (hs : swapsWithSole [.Tuple es k tp] x pos.line c.env = pure false := by with_unfolding_all rfl) (hw : swappedStores [.Tuple es k tp] x c.env = pure none := by with_unfolding_all rfl) :
    EX Ω n c (.Assign [.Tuple es k tp] x pos) (sAssignTup is t) := by
  intro A W ρ Q E s a I hq
  refine Assign_Tuple (pb (.refl I) (h A W ρ _ E s a I hq) fun v s₁ b₁ _ ⟨d, rd, ds, hd, hl, hQ⟩ => ?_) hs hw
  subst hd
  refine assign_tup a.hd hn hp hl b₁.iv rd fun h' tk x I' => ?_
  exact b₁.spost I ⟨W, _, h', tk, .next, rfl, x, .refl _ _, I', rfl, hQ⟩
structure Own (c : Ctx) (W : Addr → Prop) (h : Heap) (i : Nat) (ds : List D) (a : Addr) (vs : List Value) (k : Nat) : Prop where
  at_ : ∃ m, h.Ns c.env.locals m ∧ m (nm i) = some (.ref a)
  w : W a
  o : ¬ c.O a
  l : a ≠ c.L
  e : a ≠ c.env.locals
  cell : ∀ x ∈ c.env.cells, x.2 ≠ a
  get : h.get? a = some (lobj vs k)
  reps : Reps (fun b => c.O b ∨ W b) h ds vs
theorem Iv.own {W : Addr → Prop} {ρ : Rho} {h : Heap} {i : Nat} {ds : List D} (I : Iv Ω c W ρ h) (hk : c.env.kindOf (nm i) = some .local) (hi : ρ i = some (.own ds)) : ∃ a vs k, Own c W h i ds a vs k := by
  obtain ⟨m, α, hm, hv, _⟩ := I.vars
  obtain ⟨_, v, hat, h1, h2, hO, h3, h4, h5, vs, k, ho, hrs⟩ := hv i _ hi
  rcases hat with ⟨_, e⟩ | ⟨q, _⟩
  · exact ⟨α i, vs, k, ⟨m, hm, h1 ▸ e⟩, h2, hO, h3, h4, h5, ho, hrs⟩
  · rcases q with q | q <;> (rw [hk] at q; cases q)
theorem Own.eext {W : Addr → Prop} {ρ : Rho} {h h' : Heap} {i : Nat} {ds : List D} {a : Addr} {vs : List Value} {k : Nat} (x : Own c W h i ds a vs k) (I : Iv Ω c W ρ h) (e : EExt c h h') : Own c W h' i ds a vs k := by
  obtain ⟨⟨m, hm, hx⟩, w, o, l, en, cl, g, r⟩ := x
  refine ⟨⟨m, ?_, hx⟩, w, o, l, en, cl, e.ext.keep _ _ l (I.wF _ w) g, r.eext e (.inr I.wL)⟩
  by_cases q : c.env.locals = c.L
  · rw [q] at hm ⊢; exact e.ns m hm
  · exact Ns.ext hm e.ext q
theorem Own.load {W : Addr → Prop} {ρ : Rho} {i : Nat} {ds : List D} {a : Addr} {vs : List Value} {k : Nat} {M : Model} {A : Around} {s : Shared} {Q : Value → Shared → Prop} {E : Value → Shared → Prop} (x : Own c W s.heap i ds a vs k) (hi : i < 39) (hk : c.env.kindOf (nm i) = some .local) (hf : c.env.scope.kind = .function)
    {pos : Pos} (h : Q (.ref a) s) : wpAny M A (eval (.Name (nm i) pos) c.env) Q E s := by
  obtain ⟨m, hm, hx⟩ := x.at_
  exact wpAny_Name (wpAny_loadName_local hf hk hm hx h) (nm_dbg i hi)
theorem Own.list {W : Addr → Prop} {h : Heap} {i : Nat} {ds : List D} {a : Addr} {vs : List Value} {k : Nat} (x : Own c W h i ds a vs k) : h.IsList a vs.toArray := ⟨_, x.get, rfl, k, rfl⟩
noncomputable def OwnPl (c : Ctx) (i : Nat) : Prop := i < 39 ∧ c.env.kindOf (nm i) = some .local
noncomputable def tIdxOwn (i : Nat) (t : TE) : TE := fun ρ Q E => ∃ ds, ρ i = some (.own ds) ∧ t ρ (fun b => ∃ k j d, b = .int k ∧ -(2 ^ 63 : Int) ≤ k ∧ k < 2 ^ 63 ∧ seqIndex? k ds.length = some j ∧ ds[j]? = some d ∧ Q d) E
theorem ev_idxOwn {i : Nat} {x : Expr} {np pos : Pos} {t : TE} (hp : OwnPl c i) (hi : EV Ω n c x t)
    (hs : ∀ (o v : Value), subscripted x false o v = operate [o, v] (getItem o v) := by intro _ _; with_unfolding_all rfl) : EV Ω n c (.Subscript (.Name (nm i) np) x pos) (tIdxOwn i t) := by
  intro A W ρ Q E s a I ⟨ds, hds, hq⟩
  obtain ⟨l, vs, k, O⟩ := I.own hp.2 hds
  refine Subscript_ (O.load (ρ := ρ) hp.1 hp.2 I.kind ?_)
  refine pb (.refl I) (hi A W ρ _ E s a I hq) fun v s₂ b₂ x₂ ⟨e, re, k', j, d, he, h1, h2, hj, hg, hq⟩ => ?_
  subst he
  unfold Rep at re
  obtain ⟨t', rfl⟩ := re
  have O' := O.eext I x₂
  obtain ⟨v, hv, hrv⟩ := O'.reps.get hg
  exact tail_any O'.list.typeIs slot_list_getitem.lookup (getItem_any O'.list h1 h2 (by rw [O'.reps.length]; exact hj) hv (pl b₂ ⟨d, hrv, hq⟩)) (hs _ _)
theorem Iv.setOwn {W : Addr → Prop} {ρ : Rho} {h h' : Heap} {i : Nat} {ds ds' : List D} {a : Addr} {vs vs' : List Value} {k k' : Nat} (I : Iv Ω c W ρ h) (hp : OwnPl c i) (hi : ρ i = some (.own ds)) (O : Own c W h i ds a vs k)
    (hs : Heap.SameBut a h h') (ho : h'.get? a = some (lobj vs' k')) (hr : Reps (fun b => c.O b ∨ W b) h ds' vs') : Iv Ω c W (upd ρ i (.own ds')) h' := by
  obtain ⟨m₀, α, hm₀, hv, hinj⟩ := I.vars
  have hai : α i = a := by
    obtain ⟨m, hm, hx⟩ := O.at_
    obtain rfl := ns_unique hm hm₀
    obtain ⟨_, v, hat, h1, _⟩ := hv i _ hi
    rcases hat with ⟨_, e⟩ | ⟨q, _⟩
    · rw [hx, h1] at e; cases e; rfl
    · rcases q with q | q <;> (rw [hp.2] at q; cases q)
  have cells : ∀ {x : Str × Addr} {v : Option Value}, x ∈ c.env.cells → h.IsCell x.2 v → h'.IsCell x.2 v := fun hx hc => hc.sameBut hs (O.cell _ hx)
  have hrs : Reps (fun b => c.O b ∨ W b) h' ds' vs' := Reps.ext (F := fun _ => False) (ext_but hs) (fun b hb => .inr (hb ▸ O.w)) (fun _ _ _ z => z) ds' vs' hr
  refine I.write O.w hs ⟨_, ho, fun vs q => by cases q⟩ ?_ (fun x hx => ?_) ⟨m₀, α, hm₀.sameBut hs (Ne.symm O.e), fun j sl hj => ?_, fun x y xs ys hx hy => ?_⟩
  · obtain ⟨m', hm'⟩ := I.ns0
    exact ⟨m', hm'.sameBut hs (Ne.symm O.l)⟩
  · obtain ⟨v, hv⟩ := I.cellIs x hx; exact ⟨v, cells hx hv⟩
  · rcases upd_some hj with ⟨rfl, rfl⟩ | ⟨hne, hj⟩
    · obtain ⟨h39, v, hat, h1, h2, hO, h3, h4, h5, _⟩ := hv j _ hi
      refine ⟨h39, v, ?_, h1, h2, hO, h3, h4, h5, vs', k', by rw [hai]; exact ho, hrs⟩
      rcases hat with q | ⟨q, ad, ha, hc⟩
      · exact .inl q
      · exact .inr ⟨q, ad, ha, cells (mem_of_lookup ha) hc⟩
    · obtain ⟨h39, v, hat, hr⟩ := hv j sl hj
      refine ⟨h39, v, ?_, hr.write hs O.w (.inr (.inr fun es he q => hne ?_))⟩
      · rcases hat with q | ⟨q, ad, ha, hc⟩
        · exact .inl q
        · exact .inr ⟨q, ad, ha, cells (mem_of_lookup ha) hc⟩
      · subst he
        exact hinj j i es ds hj hi (q.trans hai.symm)
  · rcases upd_some hx with ⟨rfl, _⟩ | ⟨hnx, hx'⟩
    · rcases upd_some hy with ⟨rfl, _⟩ | ⟨hny, hy'⟩
      · exact fun _ => rfl
      · exact fun q => hinj x y ds ys hi hy' q
    · rcases upd_some hy with ⟨rfl, _⟩ | ⟨hny, hy'⟩
      · exact fun q => hinj x y xs ds hx' hi q
      · exact fun q => hinj x y xs ys hx' hy' q
noncomputable def sAppend (i : Nat) (t : TE) : TS := fun ρ Q E => ∃ ds, ρ i = some (.own ds) ∧ ds.length ≤ 4096 ∧ t ρ (fun d => Q .next (upd ρ i (.own (ds ++ [d])))) E
theorem ex_append {i : Nat} {x : Expr} {np ap cp pos : Pos} {t : TE} {pl : Sem Bool} (hp : OwnPl c i) (h : EV Ω n c x t)
    (hi : interactive c.env = false := by with_unfolding_all rfl) (hsw : swapsWith (.Call (.Attribute (.Name (nm i) np) "append" ap) [x] [] cp) none pos.line c.env = pure false := by with_unfolding_all rfl)
    (he : eval (.Call (.Attribute (.Name (nm i) np) "append" ap) [x] [] cp) c.env = (do
      let ov ← eval (.Name (nm i) np) c.env
      standAt ap.atName
      let (f, first) ← holding [ov] (getMethod ov "append" pl)
      callWith cp f first (backTo cp (starEach [x] c.env)) []) := by with_unfolding_all rfl)
    (hst : starEach [x] c.env = (false, eval x c.env) :: starEach [] c.env := by with_unfolding_all rfl) :
    EX Ω n c (.Expr (.Call (.Attribute (.Name (nm i) np) "append" ap) [x] [] cp) pos) (sAppend i t) := by
  intro A W ρ Q E s a I ⟨ds, hds, hlen, hq⟩
  obtain ⟨l, vs, k, O⟩ := I.own hp.2 hds
  refine wpAny_Expr ?_ hi hsw
  refine MethodCall_ (pl := pl) (O.load (ρ := ρ) hp.1 hp.2 I.kind ?_) he
  refine getMethod_list_append O.get rfl rfl ?_
  refine Calls.callWith_builtin (by rw [hst]; rfl) ?_
  rw [hst]
  refine evalArgs_plain (spliced_cons (pb (.refl I) (h A W ρ _ E s a I hq) fun v s₂ b₂ x₂ ⟨d, rd, hd⟩ => spliced_nil ?_))
  have O' := O.eext I x₂
  refine append_at O'.get (fun h' hs ho => ?_) (by rw [sizeLine_eq, List.size_toArray, O'.reps.length]; exact Nat.le_trans hlen (by decide))
  have ho' : h'.get? l = some (lobj (vs ++ [v]) (k + 1)) := by rw [ho]; simp
  have hr : Reps (fun b => c.O b ∨ W b) s₂.heap (ds ++ [d]) (vs ++ [v]) := O'.reps.append (by unfold Reps Reps; exact ⟨v, [], rfl, rd, rfl⟩)
  have I' := b₂.iv.setOwn hp hds O' hs ho' hr
  exact b₂.spost I ⟨W, _, h', s₂.toks, .next, rfl, ext_w O.w hs, .refl _ _, I', rfl, hd⟩
noncomputable def sRetOwn (i : Nat) : TS := fun ρ Q _ => ∃ ds, ρ i = some (.own ds) ∧ Q (.ret (.list ds)) ρ
theorem ex_retOwn {i : Nat} {np pos : Pos} (hp : OwnPl c i) : EX Ω n c (.Return (some (.Name (nm i) np)) pos) (sRetOwn i) := by
  intro A W ρ Q E s a I ⟨ds, hds, hq⟩
  obtain ⟨l, vs, k, O⟩ := I.own hp.2 hds
  refine wpAny_Return_some (O.load (ρ := ρ) hp.1 hp.2 I.kind ?_)
  refine ⟨W, ρ, s.heap, s.toks, .ret (.list ds), rfl, .refl _ _ _, .refl _ _, I, ⟨_, rfl, ?_⟩, hq⟩
  unfold Rep
  exact ⟨l, vs, rfl, O.list, O.o, Reps.ext (W := fun _ => False) (F := fun _ => False) (.refl _ _ _) (fun _ q => q.elim) (fun b _ _ q => .inl q) ds vs O.reps⟩
theorem Iv.grow {W V : Addr → Prop} {ρ : Rho} {h h' : Heap} (I : Iv Ω c W ρ h) (x : EExt c h h') (hV : ∀ b, V b → h.get? b = none ∧ Ω.base.objs.size ≤ b ∧ ∃ o, h'.get? b = some o) : Iv Ω c (fun b => W b ∨ V b) ρ h' := by
  have J := I.eext x
  have offO : ∀ b, V b → ¬ (c.O b ∨ W b) := fun b hb => I.fresh (hV b hb).1
  refine ⟨J.keep, fun b hb => hb.elim (I.wabove b) fun v => (hV b v).2.1, J.ns0, .inl I.wL, .inl I.wenv, fun y hy => .inl (I.wcell y hy), I.cellL, J.cellIs, fun b hb => hb.elim (I.wF b) fun v f => offO b v (.inl (I.FO b f)), I.FO, fun b hb => ?_, I.apart, I.frL, I.kind, I.glob, I.blt, J.frs, ?_⟩
  · rcases hb with (hb | hb) | hb
    · exact J.there b (.inl hb)
    · exact (hV b hb).2.2
    · exact J.there b (.inr hb)
  · obtain ⟨m, α, hm, hv, hinj⟩ := I.vars
    obtain ⟨m', α', hm', hv', hinj'⟩ := J.vars
    have off : ∀ y ∈ c.env.cells, ¬ (y.2 = c.L) := fun y hy => (I.cellL y hy).1
    have toO : ∀ b, b = c.L → c.O b ∨ W b := fun b hb => .inr (hb ▸ I.wL)
    have nO : ∀ b o, h.get? b = some o → (c.O b ∨ (W b ∨ V b)) → c.O b ∨ W b := fun b o e q => by
      rcases q with q | q | q
      · exact .inl q
      · exact .inr q
      · rw [(hV b q).1] at e; cases e
    refine ⟨m, α, ?_, fun i sl hs => ?_, hinj⟩
    · by_cases q : c.env.locals = c.L
      · rw [q] at hm ⊢; exact x.ns m hm
      · exact Ns.ext hm x.ext q
    · obtain ⟨hi39, v, hat, hr⟩ := hv i sl hs
      refine ⟨hi39, v, hat.ext x.ext off, ?_⟩
      cases sl with
      | val d => exact Rep.ext x.ext toO nO d v hr
      | own ds =>
        obtain ⟨h1, h2, hO, h3, h4, h5, vs, n, ho, hrs⟩ := hr
        exact ⟨h1, .inl h2, hO, h3, h4, h5, vs, n, x.ext.keep _ _ h3 (I.wF _ h2) ho, Reps.ext x.ext toO nO ds vs hrs⟩
theorem Iv.base_size {W : Addr → Prop} {ρ : Rho} {h : Heap} (I : Iv Ω c W ρ h) : Ω.base.objs.size ≤ h.objs.size := by
  obtain ⟨o, hoL⟩ := I.there c.L (.inl I.wL)
  exact Nat.le_of_lt (Nat.lt_of_le_of_lt (I.wabove _ I.wL) (Heap.lt_size hoL))
theorem Iv.newOwn {W : Addr → Prop} {ρ : Rho} {h h' : Heap} {m : Str → Option Value} {i : Nat} {ds : List D} {a : Addr} {vs : List Value} {k : Nat} (I : Iv Ω c W ρ h) (hp : OwnPl c i) (hm : h.Ns c.env.locals m)
    (hn : h'.Ns c.env.locals (fun y => if y = nm i then some (.ref a) else m y)) (hs : Heap.SameBut c.env.locals h h') (w : W a) (o : ¬ c.O a) (l : a ≠ c.L) (e : a ≠ c.env.locals) (cl : ∀ x ∈ c.env.cells, x.2 ≠ a)
    (g : h.get? a = some (lobj vs k)) (r : Reps (fun b => c.O b ∨ W b) h ds vs) (new : ∀ j es a' vs' k', ρ j = some (.own es) → Own c W h j es a' vs' k' → a' ≠ a) (loc : ∀ j es, ρ j = some (.own es) → c.env.kindOf (nm j) = some .local) : Iv Ω c W (upd ρ i (.own ds)) h' := by
  obtain ⟨m₀, α, hm₀, hv, hinj⟩ := I.vars
  obtain rfl := ns_unique hm hm₀
  have newα : ∀ j es, ρ j = some (.own es) → α j ≠ a := fun j es hj => by
    obtain ⟨_, v, hat, h1, h2, hO, h3, h4, h5, vs', k', ho, hrs⟩ := hv j _ hj
    rcases hat with ⟨_, e⟩ | ⟨q, _⟩
    · exact new j es (α j) vs' k' hj ⟨⟨m, hm, h1 ▸ e⟩, h2, hO, h3, h4, h5, ho, hrs⟩
    · have := loc j es hj
      rcases q with q | q <;> (rw [this] at q; cases q)
  have cells : ∀ {x : Str × Addr} {v : Option Value}, x ∈ c.env.cells → h.IsCell x.2 v → h'.IsCell x.2 v := fun hx hc => hc.sameBut hs (I.cellL _ hx).2
  refine I.write I.wenv hs ?_ ?_ (fun x hx => ?_) ⟨_, fun j => if j = i then a else α j, hn, fun j sl hj => ?_, fun x y xs ys hx hy => ?_⟩
  · obtain ⟨o, es, ep, ho, hd, _⟩ := hn
    exact ⟨o, ho, fun vs q => by rw [hd] at q; cases q⟩
  · by_cases q : c.env.locals = c.L
    · exact ⟨_, q ▸ hn⟩
    · obtain ⟨m', hm'⟩ := I.ns0
      exact ⟨m', hm'.sameBut hs (Ne.symm q)⟩
  · obtain ⟨v, hv⟩ := I.cellIs x hx; exact ⟨v, cells hx hv⟩
  · rcases upd_some hj with ⟨rfl, rfl⟩ | ⟨hne, hj⟩
    · refine ⟨hp.1, .ref a, .inl ⟨hp.2, by simp⟩, ?_⟩
      show SlRep _ W h' c (if j = j then a else α j) (.own ds) _
      rw [if_pos rfl]
      exact ⟨rfl, w, o, l, e, cl, vs, k, (hs.2 a e).trans g, Reps.ext (F := fun _ => False) (ext_but hs) (fun b hb => .inr (hb ▸ I.wenv)) (fun _ _ _ z => z) ds vs r⟩
    · obtain ⟨hj39, w', hat, hr⟩ := hv j sl hj
      show j < 39 ∧ ∃ v, _ ∧ SlRep _ W h' c (if j = i then a else α j) sl v
      rw [if_neg hne]
      refine ⟨hj39, w', ?_, hr.write hs I.wenv (.inl rfl)⟩
      rcases hat with ⟨k, e⟩ | ⟨k, a, ha, hc⟩
      · exact .inl ⟨k, by
          show (if nm j = nm i then _ else m (nm j)) = some w'
          rw [if_neg fun q => hne (nm_inj j hj39 i hp.1 q)]; exact e⟩
      · exact .inr ⟨k, a, ha, cells (mem_of_lookup ha) hc⟩
  · show (if x = i then a else α x) = (if y = i then a else α y) → x = y
    rcases upd_some hx with ⟨rfl, _⟩ | ⟨hnx, hx'⟩
    · rcases upd_some hy with ⟨rfl, _⟩ | ⟨hny, hy'⟩
      · exact fun _ => rfl
      · rw [if_pos rfl, if_neg hny]
        exact fun q => absurd q.symm (newα y ys hy')
    · rcases upd_some hy with ⟨rfl, _⟩ | ⟨hny, hy'⟩
      · rw [if_pos rfl, if_neg hnx]
        exact fun q => absurd q (newα x xs hx')
      · rw [if_neg hnx, if_neg hny]
        exact fun q => hinj x y xs ys hx' hy' q
noncomputable def sOwn (loc : List Nat) (i : Nat) (ts : TL) : TS := fun ρ Q E => (∀ j es, ρ j = some (.own es) → j ∈ loc) ∧ ts ρ (fun ds => ds.length ≤ 4096 ∧ Q .next (upd ρ i (.own ds))) E
theorem ex_own {i : Nat} {es : List Expr} {np lp pos : Pos} {ts : TL} (loc : List Nat) (hp : OwnPl c i) (hl : ∀ j ∈ loc, c.env.kindOf (nm j) = some .local) (h : EVs Ω n c es ts) (hs : swapsWith (.List es lp) (some (.Name (nm i) np)) pos.line c.env = pure false := by with_unfolding_all rfl) :
    EX Ω n c (.Assign [.Name (nm i) np] (.List es lp) pos) (sOwn loc i ts) := by
  intro A W ρ Q E s a I ⟨hloc, hq⟩
  refine wpAny_Assign_Name (List_ (pb (.refl I) (h A W ρ _ E s lp a I hq) fun vs s₁ b₁ _ ⟨ds, rds, hsz, hds⟩ => ?_)) hs
  refine wpAny_newObj_type ?_ (by show vs.toArray.size ≤ sizeLine; rw [List.size_toArray, rds.length, sizeLine_eq]; exact Nat.le_trans hsz (by decide))
  have I₁ := b₁.iv
  have x : EExt c s₁.heap (s₁.heap.push (lobj vs 0)) := .push _ _ _
  have hnew : s₁.heap.get? s₁.heap.objs.size = none := get_size _
  have hget : (s₁.heap.push (lobj vs 0)).get? s₁.heap.objs.size = some (lobj vs 0) := Heap.get?_push_size _ rfl
  have I₂ := I₁.grow (V := fun b => b = s₁.heap.objs.size) x fun b hb => by subst hb; exact ⟨hnew, I₁.base_size, _, hget⟩
  obtain ⟨m, α, hm, _⟩ := I₂.vars
  have fr := I₁.fresh hnew
  have nW : ∀ b, W b → b ≠ s₁.heap.objs.size := fun b hb q => fr (.inr (q ▸ hb))
  refine wpAny_storeName_local (s := { s₁ with heap := s₁.heap.push (lobj vs 0) }) hp.2 hm (fun h' hn' hs' => ?_) (by rw [I.kind]; rfl)
  have r₂ : Reps (fun b => c.O b ∨ (W b ∨ b = s₁.heap.objs.size)) (s₁.heap.push (lobj vs 0)) ds vs := Reps.ext x.ext (fun b hb => .inr (hb ▸ I.wL)) (fun b o e q => by
    rcases q with q | q | q
    · exact .inl q
    · exact .inr q
    · rw [q, hnew] at e; cases e) ds vs rds
  have I₃ := I₂.newOwn (i := i) (ds := ds) hp hm hn' hs' (.inr rfl) (fun q => fr (.inl q)) (Ne.symm (nW _ I.wL)) (Ne.symm (nW _ I.wenv)) (fun y hy => nW _ (I.wcell y hy)) hget r₂ (fun j es a' vs' k' hj O' q => ?_) fun j es hj => hl j (hloc j es hj)
  · refine b₁.spost I ⟨_, _, h', _, .next, rfl, ?_, ⟨fun b hb => .inl hb, fun b hb => hb.elim .inl fun (q : b = s₁.heap.objs.size) => ?_⟩, I₃, rfl, hds⟩
    · exact (ext_e I₁ x).trans (ext_w I.wenv hs')
    · exact .inr (q ▸ hnew)
  · obtain ⟨l', vs'', k'', O₁⟩ := I₁.own (hl j (hloc j es hj)) hj
    obtain ⟨m₁, hm₁, hx₁⟩ := (O₁.eext I₁ x).at_
    obtain ⟨m₂, hm₂, hx₂⟩ := O'.at_
    obtain rfl := ns_unique hm₁ hm₂
    rw [hx₁] at hx₂
    cases hx₂
    exact nW _ O₁.w q
end
end Mine
end
section
open PySem PySem.W PyProof.Rows PySem.Calls
set_option Elab.async false
set_option linter.all false
set_option autoImplicit false
set_option maxRecDepth 100000
namespace Mine
theorem lt_less {n i : Nat} (h : i < n) : n + 1 - (i + 1) < n + 1 - i := by omega
theorem app_len {α : Type} {l : List α} {r : α} {n : Nat} (h : l.length ≤ n) : (l ++ [r]).length ≤ n + 1 := by rw [List.length_append]; exact Nat.succ_le_succ h
noncomputable def Ctx.withO (c : Ctx) (O : Addr → Prop) : Ctx := ⟨c.env, c.fenv, c.L, c.outer, O⟩
section
variable {Ω : Wd} {n : Nat} {c : Ctx}
theorem Iv.step {O₁ O₂ V W : Addr → Prop} {ρ : Rho} {h h' : Heap} (I : Iv Ω (c.withO O₁) W ρ h) (k : ∀ b o, ¬ V b → h.get? b = some o → h'.get? b = some o) (hV : ∀ b, V b → O₁ b ∧ ¬ W b ∧ Ω.base.get? b = none ∧ ¬ c.F b)
    (h12 : ∀ b, O₂ b → O₁ b) (hF : ∀ b, c.F b → O₂ b) (ht : ∀ b, O₂ b → ∃ o, h'.get? b = some o) : Iv Ω (c.withO O₂) W ρ h' := by
  have x : Ext V (fun _ => False) h h' := .of_keep k
  have offW : ∀ b, W b → ¬ V b := fun b w v => (hV b v).2.1 w
  have offC : ∀ y ∈ c.env.cells, ¬ V y.2 := fun y hy => offW _ (I.wcell y hy)
  have toO : ∀ b, V b → O₁ b ∨ W b := fun b v => .inl (hV b v).1
  have nO : ∀ b o, h.get? b = some o → O₂ b ∨ W b → O₁ b ∨ W b := fun b _ _ q => q.imp (h12 b) id
  refine ⟨fun b o e => k b o (fun v => by rw [(hV b v).2.2.1] at e; cases e) (I.keep b o e), I.wabove, ?_, I.wL, I.wenv, I.wcell, I.cellL, fun y hy => ?_, I.wF, hF, fun b hb => ?_, I.apart, I.frL, I.kind, I.glob, I.blt, fun ev hev => ?_, ?_⟩
  · obtain ⟨m, hm⟩ := I.ns0; exact ⟨m, Ns.ext hm x (offW _ I.wL)⟩
  · obtain ⟨v, hv⟩ := I.cellIs y hy; exact ⟨v, IsCell.ext hv x (offC y hy)⟩
  · rcases hb with hb | hb
    · obtain ⟨o, ho⟩ := I.there b (.inl hb)
      exact ⟨o, k b o (offW b hb) ho⟩
    · exact ht b hb
  · obtain ⟨hk, L, o, hf, ho, hd, hab⟩ := I.frs ev hev
    refine ⟨hk, L, o, hf, k L o (fun v => ?_) ho, hd, hab⟩
    rcases List.mem_cons.mp hev with rfl | hev
    · exact offW L ((Option.some.inj (hf.symm.trans I.frL) : L = c.L) ▸ I.wL) v
    · exact (hV L v).2.2.2 ⟨ev, hev, hf⟩
  · obtain ⟨m, α, hm, hv, hi⟩ := I.vars
    refine ⟨m, α, Ns.ext hm x (offW _ I.wenv), fun i sl hs => ?_, hi⟩
    obtain ⟨hi39, v, hat, hr⟩ := hv i sl hs
    refine ⟨hi39, v, ?_, ?_⟩
    · rcases hat with q | ⟨q, a, ha, hc⟩
      · exact .inl q
      · exact .inr ⟨q, a, ha, IsCell.ext hc x (offC (nm i, a) (mem_of_lookup ha))⟩
    · cases sl with
      | val d => exact Rep.ext x toO nO d v hr
      | own ds =>
        obtain ⟨h1, h2, hO, h3, h4, h5, vs, n, ho, hrs⟩ := hr
        exact ⟨h1, h2, fun q => hO (h12 _ q), h3, h4, h5, vs, n, k _ _ (offW _ h2) ho, Reps.ext x toO nO ds vs hrs⟩
theorem Iv.widen {V W : Addr → Prop} {ρ : Rho} {h h' : Heap} (I : Iv Ω c W ρ h) (x : EExt c h h') (hV : ∀ b, V b → h.get? b = none ∧ ∃ o, h'.get? b = some o) : Iv Ω (c.withO fun b => c.O b ∨ V b) W ρ h' := by
  have J := I.eext x
  have nO : ∀ b o, h.get? b = some o → ((c.O b ∨ V b) ∨ W b) → c.O b ∨ W b := fun b o e q => by
    rcases q with (q | q) | q
    · exact .inl q
    · rw [(hV b q).1] at e; cases e
    · exact .inr q
  refine ⟨J.keep, J.wabove, J.ns0, J.wL, J.wenv, J.wcell, J.cellL, J.cellIs, J.wF, fun b f => .inl (J.FO b f), fun b hb => ?_, J.apart, J.frL, J.kind, J.glob, J.blt, J.frs, ?_⟩
  · rcases hb with hb | hb | hb
    · exact J.there b (.inl hb)
    · exact J.there b (.inr hb)
    · exact (hV b hb).2
  · obtain ⟨m, α, hm, hv, hinj⟩ := I.vars
    have off : ∀ y ∈ c.env.cells, ¬ (y.2 = c.L) := fun y hy => (I.cellL y hy).1
    have toO : ∀ b, b = c.L → c.O b ∨ W b := fun b hb => .inr (hb ▸ I.wL)
    refine ⟨m, α, ?_, fun i sl hs => ?_, hinj⟩
    · show h'.Ns c.env.locals m
      by_cases q : c.env.locals = c.L
      · rw [q] at hm ⊢; exact x.ns m hm
      · exact Ns.ext hm x.ext q
    · obtain ⟨hi39, v, hat, hr⟩ := hv i sl hs
      refine ⟨hi39, v, hat.ext x.ext off, ?_⟩
      cases sl with
      | val d => exact Rep.ext x.ext toO nO d v hr
      | own ds =>
        obtain ⟨h1, h2, hO, h3, h4, h5, vs, n, ho, hrs⟩ := hr
        exact ⟨h1, h2, (fun (q : c.O _ ∨ V _) => q.elim hO fun v => by rw [(hV _ v).1] at ho; cases ho), h3, h4, h5, vs, n, x.ext.keep _ _ h3 (I.wF _ h2) ho, Reps.ext x.ext toO nO ds vs hrs⟩
noncomputable def loopT (bind : Nat → D → Rho → Rho) (body : TS) : Nat → List D → TS
  | _, [], ρ, Q, _ => Q .next ρ
  | i, d :: ds, ρ, Q, E => body (bind i d ρ) (fun f ρ' => match f with
    | .next => loopT bind body (i + 1) ds ρ' Q E
    | .cont => loopT bind body (i + 1) ds ρ' Q E
    | .brk => Q .next ρ'
    | .ret d => Q (.ret d) ρ') (fun _ => False)
theorem loop_core {A : Around} {tgt : Expr} {body : List Stmt} {Ia : Addr} {fp wr : List Addr} {St : Nat → Heap → Prop} {ds : List D} {P : Nat → Value → Prop} {bind : Nat → D → Rho → Rho} {tb : TS} {W : Addr → Prop} {ρ : Rho} {Q : Flw → Rho → Prop} {E : Nat → Prop} {s₀ s : Shared} {R' : Value → Shared → Prop}
    (a : AOk c n A) (hb : ∀ O', EXs Ω n (c.withO O') body tb)
    (sub : ∀ b ∈ wr, b ∈ fp) (frame : ∀ i h h', St i h → (∀ b ∈ fp, ∀ o, h.get? b = some o → h'.get? b = some o) → St i h') (thereF : ∀ i h b, St i h → b ∈ fp → ∃ o, h.get? b = some o)
    (turn : ∀ (W : Addr → Prop) (ρ : Rho) (s : Shared) (i : Nat) (d : D) (K : Shared → Prop) (E' : Value → Shared → Prop), Iv Ω (c.withO fun b => c.O b ∨ b ∈ wr) W ρ s.heap → (∀ b ∈ fp, ¬ W b ∧ ¬ c.F b) → (∀ b ∈ wr, Ω.base.get? b = none) → St i s.heap → ds[i]? = some d →
      (∀ v, P i v → Rep (fun b => (c.O b ∨ b ∈ wr) ∨ W b) s.heap d v) →
      (∀ h' tk, Ext (fun b => W b ∨ b ∈ wr) c.F s.heap h' → Iv Ω (c.withO fun b => c.O b ∨ b ∈ wr) W (bind i d ρ) h' → St (i + 1) h' → K { s with heap := h', toks := tk }) →
      wpAny (model Ω.prog Ω.w) A (pyNext (.ref Ia)) (fun r s₁ => match r with
        | none => False
        | some v => wpAny (model Ω.prog Ω.w) A (letOwnedTupleGo tgt (.ref Ia) v) (fun _ s₁' => wpAny (model Ω.prog Ω.w) A (assign tgt c.env v) (fun _ s₂ => K s₂) E' s₁') E' s₁) E' s)
    (done : ∀ (s : Shared) (K : Option Value → Shared → Prop) (E' : Value → Shared → Prop), St ds.length s.heap → (∀ h' tk, (∀ b o, b ∉ wr → s.heap.get? b = some o → h'.get? b = some o) → K none { s with heap := h', toks := tk }) →
      wpAny (model Ω.prog Ω.w) A (pyNext (.ref Ia)) K E' s)
    (I₀ : Iv Ω c W ρ s₀.heap) (b₀ : Bk Ω c W ρ s₀ s) (new : ∀ b ∈ wr, s₀.heap.get? b = none) (fpW : ∀ b ∈ fp, ¬ (c.O b ∨ W b)) (st : St 0 s.heap)
    (items : ∀ i v d, P i v → ds[i]? = some d → Rep (fun b => (c.O b ∨ b ∈ wr) ∨ W b) s.heap d v) (hq : loopT bind tb 0 ds ρ Q E) :
    codeAny (model Ω.prog Ω.w) A (.forLoop tgt (.ref Ia) body [] c.env) (fun r s' => match r with | .ok f => SPost Ω c W s₀ Q f s' | .error e => R' e s') s := by
  have newB : ∀ b ∈ wr, Ω.base.get? b = none := fun b hb => by
    cases q : Ω.base.get? b with
    | none => rfl
    | some o => have := I₀.keep b o q; rw [new b hb] at this; cases this
  have fpF : ∀ b ∈ fp, ¬ c.F b := fun b hb f => fpW b hb (.inl (I₀.FO b f))
  have a' : ∀ O', AOk (c.withO O') n A := fun O' => ⟨a.hd, a.frames, a.depth, a.units⟩
  obtain ⟨hs, tks, rfl, xs, _⟩ := b₀
  -- what is left behind the loop
  have out : ∀ {W' : Addr → Prop} {ρ' : Rho} {h h' : Heap} {tk : Nat} {f : Flow} {g : Flw}, Iv Ω (c.withO fun b => c.O b ∨ b ∈ wr) W' ρ' h → (∀ b o, b ∉ wr → h.get? b = some o → h'.get? b = some o) → (∀ b ∈ fp, ¬ W' b) → Ext W c.F s₀.heap h → Grown W W' s₀.heap → FlRep c.O h' g f → Q g ρ' →
      SPost Ω c W s₀ Q f { s₀ with heap := h', toks := tk } := fun {W' ρ' h h' tk f g} I k hw x gr r q => by
    refine ⟨W', ρ', h', tk, g, rfl, ?_, gr, ?_, r, q⟩
    · exact ⟨fun b o hb e => let ⟨o', e', s1⟩ := x.more b o hb e; ⟨o', k b o' (fun m => by rw [new b m] at e; cases e) e', s1⟩, fun b o hb hf e => k b o (fun m => by rw [new b m] at e; cases e) (x.keep b o hb hf e)⟩
    · have := Iv.step (V := fun b => b ∈ wr) (O₂ := c.O) I (fun b o hb e => k b o hb e) (fun b hb => ⟨.inr hb, hw b (sub b hb), newB b hb, fpF b (sub b hb)⟩) (fun b q => .inl q) I₀.FO fun b hb => ?_
      · exact this
      · obtain ⟨o, ho⟩ := I.there b (.inr (.inl hb))
        exact ⟨o, k b o (fun m => fpW b (sub b m) (.inl hb)) ho⟩
  let J : Nat → Shared → Prop := fun k s' => ∃ i W' ρ' h' tk, s' = { s₀ with heap := h', toks := tk } ∧ k = ds.length + 1 - i ∧ i ≤ ds.length ∧ Iv Ω (c.withO fun b => c.O b ∨ b ∈ wr) W' ρ' h' ∧ Ext W c.F s₀.heap h' ∧ Grown W W' s₀.heap ∧ St i h' ∧ (∀ b ∈ fp, ¬ W' b) ∧
      (∀ j v d, P j v → ds[j]? = some d → Rep (fun b => (c.O b ∨ b ∈ wr) ∨ W' b) h' d v) ∧ loopT bind tb i (ds.drop i) ρ' Q E
  let K : Nat → Shared → Prop := fun k s₂ => wpAny (model Ω.prog Ω.w) A (execs body c.env) (fun f s₃ => match f with
    | .next => ∃ m, m < k ∧ J m s₃
    | .cont => ∃ m, m < k ∧ J m s₃
    | .brk => SPost Ω c W s₀ Q .next s₃
    | .ret v => SPost Ω c W s₀ Q (.ret v) s₃) (notedBy (model Ω.prog Ω.w) A c.env fun e s' => R' e s') s₂
  refine codeAny_forLoop_any J ?_ (ds.length + 1) ?_
  · rintro k s' ⟨i, W', ρ', h', tk, rfl, rfl, hi, I, x, gr, st', hw, it, hl⟩
    rcases Nat.lt_or_ge i ds.length with hlt | hge
    · have hd : ds[i]? = some ds[i] := List.getElem?_eq_getElem hlt
      rw [List.drop_eq_getElem_cons hlt] at hl
      refine wpAny_mono (turn W' ρ' { s₀ with heap := h', toks := tk } i ds[i] (K (ds.length + 1 - i)) (notedBy (model Ω.prog Ω.w) A c.env fun e s' => R' e s') I (fun b hb => ⟨hw b hb, fpF b hb⟩) newB st' hd (fun v hv => it i v _ hv hd) fun h₁ tk₁ x₁ I₁ st₁ => ?_) (fun r s₁ h₁ => ?_) fun _ _ z => z
      rotate_left
      · cases r with
        | none => exact h₁.elim
        | some v =>
          refine wpAny_mono h₁ (fun _ _ h₂ => wpAny_mono h₂ (fun _ _ h₃ => wpAny_mono h₃ (fun f _ h₄ => ?_) fun _ _ z => z) fun _ _ z => z) fun _ _ z => z
          cases f <;> exact h₄
      · have hwr : ∀ b ∈ wr, ¬ (W' b) := fun b hb => hw b (sub b hb)
        have gone₀ : ∀ b o, s₀.heap.get? b = some o → ¬ W b → ¬ (W' b ∨ b ∈ wr) := fun b o e nb q => by
          rcases q with q | q
          · rcases gr.2 b q with q | q
            · exact nb q
            · rw [e] at q; cases q
          · rw [new b q] at e; cases e
        have x₀₁ : Ext W c.F s₀.heap h₁ := ⟨fun b o hb e => let ⟨o', e', s1⟩ := x.more b o hb e; let ⟨o'', e'', s2⟩ := x₁.more b o' (gone₀ b o e hb) e'; ⟨o'', e'', s1.trans s2⟩,
          fun b o hb hf e => x₁.keep b o (gone₀ b o e hb) hf (x.keep b o hb hf e)⟩
        refine wpAny_mono (hb (fun b => c.O b ∨ b ∈ wr) A W' _ _ (fun _ => False) { s₀ with heap := h₁, toks := tk₁ } (a' _) I₁ hl) (fun f s₃ p => ?_) fun v s₃ p => ?_
        · obtain ⟨W'', ρ'', h₂, tk₂, g, rfl, x₂, g₂, I₂, r₂, q₂⟩ := p
          have x₀₂ : Ext W c.F s₀.heap h₂ := ⟨fun b o hb e => let ⟨o', e', s1⟩ := x₀₁.more b o hb e; let ⟨o'', e'', s2⟩ := x₂.more b o' (fun w => gone₀ b o e hb (.inl w)) e'; ⟨o'', e'', s1.trans s2⟩,
            fun b o hb hf e => x₂.keep b o (fun w => gone₀ b o e hb (.inl w)) hf (x₀₁.keep b o hb hf e)⟩
          have gr₂ : Grown W W'' s₀.heap := ⟨fun b w => g₂.1 b (gr.1 b w), fun b w => by
            rcases g₂.2 b w with q | q
            · exact gr.2 b q
            · cases e : s₀.heap.get? b with
              | none => exact .inr rfl
              | some o =>
                by_cases z : W b
                · exact .inl z
                · obtain ⟨o', e', _⟩ := x₀₁.more b o z e
                  rw [q] at e'; cases e'⟩
          have hw₂ : ∀ b ∈ fp, ¬ W'' b := fun b hb w => by
            rcases g₂.2 b w with q | q
            · exact hw b hb q
            · obtain ⟨o, ho⟩ := thereF _ h₁ b st₁ hb
              rw [show h₁.get? b = none from q] at ho; cases ho
          have st₂ : St (i + 1) h₂ := frame _ h₁ h₂ st₁ fun b hb o e => x₂.keep b o (hw b hb) (fpF b hb) e
          have it₂ : ∀ j v d, P j v → ds[j]? = some d → Rep (fun b => (c.O b ∨ b ∈ wr) ∨ W'' b) h₂ d v := fun j v d hv hj => by
            have r₁ : Rep (fun b => (c.O b ∨ b ∈ wr) ∨ W' b) h₁ d v := Rep.ext x₁ (fun b q => q.elim .inr fun m => .inl (.inr m)) (fun _ _ _ z => z) d v (it j v d hv hj)
            refine Rep.ext x₂ (fun b q => .inr q) (fun b o e q => q.imp id fun w => ?_) d v r₁
            rcases g₂.2 b w with q | q
            · exact q
            · rw [show h₁.get? b = none from q] at e; cases e
          have go : loopT bind tb (i + 1) (ds.drop (i + 1)) ρ'' Q E → ∃ m, m < ds.length + 1 - i ∧ J m { s₀ with heap := h₂, toks := tk₂ } := fun q =>
            ⟨ds.length + 1 - (i + 1), lt_less hlt, i + 1, W'', ρ'', h₂, tk₂, rfl, rfl, hlt, I₂, x₀₂, gr₂, st₂, hw₂, it₂, q⟩
          cases g with
          | next => cases r₂; exact go q₂
          | cont => cases r₂; exact go q₂
          | brk => cases r₂; exact out I₂ (fun _ _ _ e => e) hw₂ x₀₂ gr₂ (g := .next) rfl q₂
          | ret d =>
            obtain ⟨v, rfl, hr⟩ := r₂
            exact out I₂ (fun _ _ _ e => e) hw₂ x₀₂ gr₂ (g := .ret d) ⟨v, rfl, hr.weak fun b q => .inl q⟩ q₂
        · obtain ⟨k, _, _, _, _, _, hE, _⟩ := p
          exact hE.elim
    · have hi' : i = ds.length := Nat.le_antisymm hi hge
      subst hi'
      rw [List.drop_length] at hl
      refine done _ _ _ st' fun h₁ tk₁ k₁ => wpAny_execs_nil ?_
      exact out I k₁ hw x gr (g := .next) rfl hl
  · have I' := I₀.widen xs (V := fun b => b ∈ wr) fun b hb => ⟨new b hb, thereF 0 hs b st (sub b hb)⟩
    exact ⟨0, W, ρ, hs, tks, rfl, rfl, Nat.zero_le _, I', ext_e I₀ xs, .refl _ _, st, fun b hb w => fpW b hb (.inr w), items, by rw [List.drop_zero]; exact hq⟩
end
end Mine
end
section
open PySem PySem.W PyProof.Rows PySem.Calls
set_option Elab.async false
set_option linter.all false
set_option autoImplicit false
set_option maxRecDepth 100000
namespace Mine
section
variable {Ω : Wd} {n : Nat} {c : Ctx}
theorem Bk.gone {W : Addr → Prop} {ρ : Rho} {s s₁ : Shared} (b : Bk Ω c W ρ s s₁) {a : Addr} (e : s₁.heap.get? a = none) : s.heap.get? a = none := by
  cases q : s.heap.get? a with
  | none => rfl
  | some o =>
    by_cases z : a = c.L
    · obtain ⟨o', ho'⟩ := b.iv.there a (.inl (z ▸ b.iv.wL))
      rw [e] at ho'; cases ho'
    · obtain ⟨o', ho', _⟩ := b.ext.ext.more a o z q
      rw [e] at ho'; cases ho'
theorem iter_step {fp wr : List Addr} {W : Addr → Prop} {ρ : Rho} {h h' : Heap} (sub : ∀ b ∈ wr, b ∈ fp) (I : Iv Ω (c.withO fun b => c.O b ∨ b ∈ wr) W ρ h) (hw : ∀ b ∈ fp, ¬ W b ∧ ¬ c.F b) (hB : ∀ b ∈ wr, Ω.base.get? b = none) (th : ∀ b ∈ wr, ∃ o, h'.get? b = some o)
    (k : ∀ b o, b ∉ wr → h.get? b = some o → h'.get? b = some o) : Iv Ω (c.withO fun b => c.O b ∨ b ∈ wr) W ρ h' := by
  refine I.step (V := fun b => b ∈ wr) (fun b o hb e => k b o hb e) (fun b hb => ⟨.inr hb, (hw b (sub b hb)).1, hB b hb, (hw b (sub b hb)).2⟩) (fun b q => q) I.FO fun b hb => ?_
  by_cases q : b ∈ wr
  · exact th b q
  · obtain ⟨o, ho⟩ := I.there b (.inr hb)
    exact ⟨o, k b o q ho⟩
theorem rep_step {wr : List Addr} {O W : Addr → Prop} {h h' : Heap} {d : D} {v : Value} (r : Rep (fun b => (O b ∨ b ∈ wr) ∨ W b) h d v) (k : ∀ b o, b ∉ wr → h.get? b = some o → h'.get? b = some o) : Rep (fun b => (O b ∨ b ∈ wr) ∨ W b) h' d v :=
  Rep.ext (W := fun b => b ∈ wr) (F := fun _ => False) (.of_keep fun b o hb e => k b o hb e) (fun b hb => .inl (.inr hb)) (fun _ _ _ z => z) d v r
theorem turn_name {A : Around} {x : Nat} {px : Pos} {Ia : Addr} {fp wr : List Addr} {St : Nat → Heap → Prop} {ds : List D} {P : Nat → Value → Prop} (Wk : Walks Ω.prog Ω.w A Ia fp wr ds.length P St) (thereF : ∀ i h b, St i h → b ∈ fp → ∃ o, h.get? b = some o) (hp : Place c x)
    (W : Addr → Prop) (ρ : Rho) (s : Shared) (i : Nat) (d : D) (K : Shared → Prop) (E' : Value → Shared → Prop) (I : Iv Ω (c.withO fun b => c.O b ∨ b ∈ wr) W ρ s.heap) (hw : ∀ b ∈ fp, ¬ W b ∧ ¬ c.F b) (hB : ∀ b ∈ wr, Ω.base.get? b = none) (st : St i s.heap) (hd : ds[i]? = some d)
    (it : ∀ v, P i v → Rep (fun b => (c.O b ∨ b ∈ wr) ∨ W b) s.heap d v)
    (k : ∀ h' tk, Ext (fun b => W b ∨ b ∈ wr) c.F s.heap h' → Iv Ω (c.withO fun b => c.O b ∨ b ∈ wr) W (upd ρ x (.val d)) h' → St (i + 1) h' → K { s with heap := h', toks := tk }) :
      wpAny (model Ω.prog Ω.w) A (pyNext (.ref Ia)) (fun r s₁ => match r with
        | none => False
        | some v => wpAny (model Ω.prog Ω.w) A (letOwnedTupleGo (.Name (nm x) px) (.ref Ia) v) (fun _ s₁' => wpAny (model Ω.prog Ω.w) A (assign (.Name (nm x) px) c.env v) (fun _ s₂ => K s₂) E' s₁') E' s₁) E' s := by
  refine Wk.item i s _ _ (List.getElem?_eq_some_iff.mp hd).1 st fun v h₁ tk hP st₁ k₁ => ?_
  show wpAny _ _ (pure ()) _ _ _
  refine wpAny_pure (assign_Name ?_)
  have I₁ := iter_step Wk.sub I hw hB (fun b hb => thereF _ h₁ b st₁ (Wk.sub b hb)) k₁
  refine store (c := c.withO fun b => c.O b ∨ b ∈ wr) (s := { s with heap := h₁, toks := tk }) I₁ hp (rep_step (it v hP) k₁) fun w h₂ tk₂ hww hsb I₂ => ?_
  refine k h₂ tk₂ ?_ I₂ (Wk.frame _ h₁ h₂ st₁ fun b hb o e => (hsb.2 b fun q => (hw b hb).1 (q ▸ hww)).trans e)
  exact .of_keep fun b o hb e => (hsb.2 b fun q => hb (.inl (q ▸ hww))).trans (k₁ b o (fun m => hb (.inr m)) e)
theorem listwalk_there {Ia ax : Addr} {items : Array Value} (i : Nat) (h : Heap) (b : Addr) (st : h.IsListIter Ia ax i ∧ h.IsList ax items) (hb : b ∈ [Ia, ax]) : ∃ o, h.get? b = some o := by
  rcases List.mem_cons.mp hb with rfl | hb
  · exact ⟨_, (Classical.choose_spec st.1).1⟩
  · rw [List.mem_singleton.mp hb]; exact ⟨_, (Classical.choose_spec st.2).1⟩
theorem turn_tup {A : Around} {is : List Nat} {es : List Expr} {kk : Nat} {px : Pos} {Ia ax : Addr} {ds : List D} {items : Array Value} (hh : A.handled = none) (hne : ax ≠ Ia) (hsz : items.size = ds.length) (hn : NmE is es) (hp : ∀ i ∈ is, Place c i)
    (hds : ∀ d ∈ ds, ∃ xs, d = .tup xs ∧ xs.length = is.length)
    (W : Addr → Prop) (ρ : Rho) (s : Shared) (i : Nat) (d : D) (K : Shared → Prop) (E' : Value → Shared → Prop) (I : Iv Ω (c.withO fun b => c.O b ∨ b ∈ [Ia]) W ρ s.heap) (hw : ∀ b ∈ [Ia, ax], ¬ W b ∧ ¬ c.F b) (hB : ∀ b ∈ [Ia], Ω.base.get? b = none) (st : s.heap.IsListIter Ia ax i ∧ s.heap.IsList ax items) (hd : ds[i]? = some d)
    (it : ∀ v, items[i]? = some v → Rep (fun b => (c.O b ∨ b ∈ [Ia]) ∨ W b) s.heap d v)
    (k : ∀ h' tk, Ext (fun b => W b ∨ b ∈ [Ia]) c.F s.heap h' → Iv Ω (c.withO fun b => c.O b ∨ b ∈ [Ia]) W ((fun _ d ρ => match d with | .tup xs => updL ρ is xs | _ => ρ : Nat → D → Rho → Rho) i d ρ) h' → h'.IsListIter Ia ax (i + 1) ∧ h'.IsList ax items → K { s with heap := h', toks := tk }) :
      wpAny (model Ω.prog Ω.w) A (pyNext (.ref Ia)) (fun r s₁ => match r with
        | none => False
        | some v => wpAny (model Ω.prog Ω.w) A (letOwnedTupleGo (.Tuple es kk px) (.ref Ia) v) (fun _ s₁' => wpAny (model Ω.prog Ω.w) A (assign (.Tuple es kk px) c.env v) (fun _ s₂ => K s₂) E' s₁') E' s₁) E' s := by
  have Wk := Walks.list (prog := Ω.prog) (w := Ω.w) hh Ia ax hne items
  refine Wk.item i s _ _ (by rw [hsz]; exact (List.getElem?_eq_some_iff.mp hd).1) st fun v h₁ tk hP st₁ k₁ => ?_
  obtain ⟨xs, rfl, hl⟩ := hds d (List.mem_of_getElem? hd)
  have r₁ := rep_step (it v hP) k₁
  obtain ⟨T, vs, rfl, _⟩ := (by unfold Rep at r₁; exact r₁ : ∃ a vs, v = .ref a ∧ _)
  refine wpAny_letOwnedTupleGo_listiter st₁.1 ?_
  have I₁ := iter_step Wk.sub I hw hB (fun b hb => listwalk_there _ h₁ b st₁ (Wk.sub b hb)) k₁
  refine assign_tup (c := c.withO fun b => c.O b ∨ b ∈ [Ia]) (s := { s with heap := h₁, toks := tk }) hh hn hp hl I₁ r₁ fun h₂ tk₂ x₂ I₂ => ?_
  refine k h₂ tk₂ ?_ I₂ (Wk.frame _ h₁ h₂ st₁ fun b hb o e => x₂.keep b o (hw b hb).1 (hw b hb).2 e)
  exact ⟨fun b o hb e => x₂.more b o (fun q => hb (.inl q)) (k₁ b o (fun m => hb (.inr m)) e), fun b o hb hf e => x₂.keep b o (fun q => hb (.inl q)) hf (k₁ b o (fun m => hb (.inr m)) e)⟩
noncomputable def bName (x : Nat) : Nat → D → Rho → Rho := fun _ d ρ => upd ρ x (.val d)
noncomputable def bTup (is : List Nat) : Nat → D → Rho → Rho := fun _ d ρ => match d with | .tup xs => updL ρ is xs | _ => ρ
noncomputable def sForL (x : Nat) (t : TE) (body : TS) : TS := fun ρ Q E => t ρ (fun d => ∃ ds, d = .list ds ∧ loopT (bName x) body 0 ds ρ Q E) E
noncomputable def sForR (x : Nat) (t : TE) (body : TS) : TS := fun ρ Q E => t ρ (fun d => ∃ k : Nat, d = .int k ∧ k < 2 ^ 20 ∧ loopT (bName x) body 0 (il ((List.range k).map Int.ofNat)) ρ Q E) E
theorem il_get {k i : Nat} {d : D} (h : (il ((List.range k).map Int.ofNat))[i]? = some d) : d = .int i := by
  unfold il at h
  rw [List.getElem?_map, List.getElem?_map] at h
  by_cases hk : i < k
  · rw [List.getElem?_range hk] at h; cases h; rfl
  · rw [List.getElem?_eq_none (by rw [List.length_range]; omega)] at h; cases h
theorem ex_forR {x : Nat} {px np cp pos : Pos} {e : Expr} {body : List Stmt} {t : TE} {tb : TS} (hp : Place c x) (hi : EV Ω n c e t) (hb : ∀ O', EXs Ω n (c.withO O') body tb)
    (hx : c.env.kindOf "range" = some .globalImplicit) (hK : nsIn Ω.K mainGlobals "range" = some none)
    (hs : ∀ y, foldedSetIterable (.Call (.Name "range" np) [e] [] cp) c.env y = pure y := by intro _; with_unfolding_all rfl)
    (hst : starEach [e] c.env = (false, eval e c.env) :: starEach [] c.env := by with_unfolding_all rfl) : EX Ω n c (.For (.Name (nm x) px) (.Call (.Name "range" np) [e] [] cp) body [] pos) (sForR x t tb) := by
  intro A W ρ Q E s a I hq
  refine wpAny_For (Call_ (blt_name I hx hK (v := .type "range") (by decide +kernel) (by decide +kernel) (by decide +kernel) ?_)) hs
  refine Pv.callWith_type1 ?_ hst (by rfl)
  rw [hst]
  refine spliced_cons (pb (.refl I) (hi A W ρ _ E s a I hq) fun v s₁ b₁ _ ⟨d, rd, k, hd, hk, hl⟩ => spliced_nil ?_)
  subst hd
  unfold Rep at rd
  obtain ⟨u, rfl⟩ := rd
  refine call_range_1 ?_
  have b₂ := b₁.step (s₁.toks + 1 + 1) (.push c s₁.heap { cls := .type "range", data := .fields #[.int 0 s₁.toks, .int k u, .int 1 (s₁.toks + 1)] })
  generalize hs₂ : ({ s₁ with heap := s₁.heap.push { cls := .type "range", data := .fields #[.int 0 s₁.toks, .int k u, .int 1 (s₁.toks + 1)] }, toks := s₁.toks + 1 + 1 } : Shared) = s₂ at b₂
  have hr₂ : IsRange s₂.heap s₁.heap.objs.size 0 k 1 s₁.toks u (s₁.toks + 1) := by subst hs₂; exact .new ..
  have hsm : Builtin.Range.small 0 (k : Int) 1 = true := small_one (by decide) (by decide) (by omega) (by omega)
  refine wpAny_pyIter_range hr₂ hsm ?_
  have hrs : Builtin.Range.rangeSize 0 (k : Int) 1 = k := by rw [rangeSize_one]; split <;> omega
  rw [hrs]
  have hh := a.hd
  have hlen : (il ((List.range k).map Int.ofNat)).length = k := by unfold il; rw [List.length_map, List.length_map, List.length_range]
  have Wk := Walks.range (prog := Ω.prog) (w := Ω.w) (A := A) hh s₂.heap.objs.size 0 1 k
  have b₃ := b₂.step s₂.toks (.push c s₂.heap { cls := .type "range_iterator", data := .fields #[rawInt 0, rawInt k, rawInt 1] })
  have hg : s.heap.get? s₂.heap.objs.size = none := b₂.gone (get_size _)
  have th : ∀ i h b, IsRangeIter h s₂.heap.objs.size (0 + ((i : Nat) : Int) * 1) ((k : Int) - ((i : Nat) : Int)) 1 → b ∈ [s₂.heap.objs.size] → ∃ o, h.get? b = some o := fun i h b st hb => by
    rw [List.mem_singleton.mp hb]; exact ⟨_, st⟩
  refine loop_core (s₀ := s) a hb Wk.sub Wk.frame th (turn_name (by rw [hlen]; exact Wk) th hp) (fun s K E' st kk => Wk.done s K E' (by rw [hlen] at st; exact st) kk) I b₃ (fun b hb' => ?_) (fun b hb' => ?_) ?_ (fun i v d hv hd => ?_) hl
  · rw [List.mem_singleton.mp hb']; exact hg
  · rw [List.mem_singleton.mp hb']; exact I.fresh hg
  · have : (0 : Int) + ((0 : Nat) : Int) * 1 = 0 := by decide
    have e2 : (k : Int) - ((0 : Nat) : Int) = k := by omega
    show IsRangeIter _ _ (0 + ((0 : Nat) : Int) * 1) ((k : Int) - ((0 : Nat) : Int)) 1
    rw [this, e2]
    exact Heap.get?_push_size _ rfl
  · obtain ⟨t, rfl⟩ := hv
    rw [il_get hd]
    unfold Rep
    exact ⟨t, by rw [Int.zero_add, Int.mul_one]⟩
noncomputable def sForLT (is : List Nat) (t : TE) (body : TS) : TS := fun ρ Q E => t ρ (fun d => ∃ ds, d = .list ds ∧ (∀ d ∈ ds, ∃ xs, d = .tup xs ∧ xs.length = is.length) ∧ loopT (bTup is) body 0 ds ρ Q E) E
theorem ex_forLT {is : List Nat} {es : List Expr} {kk : Nat} {px pos : Pos} {iter : Expr} {body : List Stmt} {t : TE} {tb : TS} (hn : NmE is es) (hp : ∀ i ∈ is, Place c i) (hi : EV Ω n c iter t) (hb : ∀ O', EXs Ω n (c.withO O') body tb)
    (hs : ∀ y, foldedSetIterable iter c.env y = pure y := by intro _; with_unfolding_all rfl) : EX Ω n c (.For (.Tuple es kk px) iter body [] pos) (sForLT is t tb) := by
  intro A W ρ Q E s a I hq
  refine wpAny_For (pb (.refl I) (hi A W ρ _ E s a I hq) fun v s₁ b₁ _ ⟨d, rd, ds, hd, hds, hl⟩ => ?_) hs
  subst hd
  unfold Rep at rd
  obtain ⟨ax, vs, rfl, hL, hnO, hr⟩ := rd
  have hlt : ax < s₁.heap.objs.size := by obtain ⟨_, e, _⟩ := hL; exact Heap.lt_size e
  refine wpAny_pyIter_list hL ?_
  have hsz : vs.toArray.size = ds.length := by rw [List.size_toArray, hr.length]
  have hh := a.hd
  have Wk := Walks.list (prog := Ω.prog) (w := Ω.w) (A := A) hh s₁.heap.objs.size ax (Nat.ne_of_lt hlt) vs.toArray
  have b₂ := b₁.step s₁.toks (.push c s₁.heap { cls := .type "list_iterator", data := .fields #[.ref ax, .int 0 0] })
  have hg : s.heap.get? s₁.heap.objs.size = none := b₁.gone (get_size _)
  refine loop_core (s₀ := s) (bind := bTup is) a hb Wk.sub Wk.frame listwalk_there (turn_tup hh (Nat.ne_of_lt hlt) hsz hn hp hds) (fun s K E' st k => Wk.done s K E' (hsz ▸ st) k) I b₂ (fun b hb' => ?_) (fun b hb' => ?_) ⟨⟨_, Heap.get?_push_size _ rfl, rfl, rfl⟩, hL.push _⟩ (fun i v d hv hd => ?_) hl
  · rw [List.mem_singleton.mp hb']; exact hg
  · rcases List.mem_cons.mp hb' with rfl | hb'
    · exact I.fresh hg
    · rw [List.mem_singleton.mp hb']; exact hnO
  · obtain ⟨v', hv', hrv⟩ := hr.get hd
    have : v = v' := by
      have e : vs[i]? = some v := by simpa using hv
      rw [hv'] at e; cases e; rfl
    subst this
    refine Rep.ext (W := fun _ => False) (F := fun _ => False) (.push _ _ _ _) (fun _ q => q.elim) (fun b o e q => ?_) d v hrv
    rcases q with (q | q) | q
    · exact .inl q
    · rw [List.mem_singleton.mp q, get_size] at e; cases e
    · exact .inr q
end
end Mine
end
section
open PySem PySem.W PyProof.Rows PySem.Calls
set_option Elab.async false
set_option linter.all false
set_option autoImplicit false
set_option maxRecDepth 100000
namespace Mine
section
variable {Ω : Wd} {n : Nat} {c : Ctx}
noncomputable def bEnum (x y : Nat) : Nat → D → Rho → Rho := fun k d ρ => updL ρ [x, y] [.int k, d]
theorem turn_enum {A : Around} {x y : Nat} {es : List Expr} {kk : Nat} {px : Pos} {e it l : Addr} {ds : List D} {items : Array Value} (hh : A.handled = none) (hei : e ≠ it) (hle : l ≠ e) (hli : l ≠ it) (hsz : items.size = ds.length) (hn : NmE [x, y] es) (hp : ∀ i ∈ [x, y], Place c i)
    (W : Addr → Prop) (ρ : Rho) (s : Shared) (i : Nat) (d : D) (K : Shared → Prop) (E' : Value → Shared → Prop) (I : Iv Ω (c.withO fun b => c.O b ∨ b ∈ [e, it]) W ρ s.heap) (hw : ∀ b ∈ [e, it, l], ¬ W b ∧ ¬ c.F b) (hB : ∀ b ∈ [e, it], Ω.base.get? b = none)
    (st : (∃ old, IsEnum s.heap e it i old) ∧ s.heap.IsListIter it l i ∧ s.heap.IsList l items) (hd : ds[i]? = some d)
    (hit : ∀ v, items[i]? = some v → Rep (fun b => (c.O b ∨ b ∈ [e, it]) ∨ W b) s.heap d v)
    (k : ∀ h' tk, Ext (fun b => W b ∨ b ∈ [e, it]) c.F s.heap h' → Iv Ω (c.withO fun b => c.O b ∨ b ∈ [e, it]) W (bEnum x y i d ρ) h' → ((∃ old, IsEnum h' e it ((i + 1 : Nat) : Int) old) ∧ h'.IsListIter it l (i + 1) ∧ h'.IsList l items) → K { s with heap := h', toks := tk }) :
      wpAny (model Ω.prog Ω.w) A (pyNext (.ref e)) (fun r s₁ => match r with
        | none => False
        | some v => wpAny (model Ω.prog Ω.w) A (letOwnedTupleGo (.Tuple es kk px) (.ref e) v) (fun _ s₁' => wpAny (model Ω.prog Ω.w) A (assign (.Tuple es kk px) c.env v) (fun _ s₂ => K s₂) E' s₁') E' s₁) E' s := by
  have Wk := WalksT.enumerate (prog := Ω.prog) (w := Ω.w) hh e it l hei hle hli items
  refine Wk.item i s _ _ (by rw [hsz]; exact (List.getElem?_eq_some_iff.mp hd).1) st fun T vals h₁ tk hP hT hTup hM k₁ => ?_
  obtain ⟨t, v, hv, rfl⟩ := hP
  refine Wk.go es kk px i T { s with heap := h₁, toks := tk } _ _ hM fun h₂ st₂ k₂ => ?_
  have hTw : T ∉ [e, it] := Wk.apart i T h₁ hM
  have k₁₂ : ∀ b o, b ∉ [e, it] → s.heap.get? b = some o → h₂.get? b = some o := fun b o hb q => k₂ b o hb (k₁ b o hb q)
  have th : ∀ b ∈ [e, it], ∃ o, h₂.get? b = some o := fun b hb => by
    rcases List.mem_cons.mp hb with rfl | hb
    · obtain ⟨old, ho⟩ := st₂.1; exact ⟨_, ho⟩
    · rw [List.mem_singleton.mp hb]; obtain ⟨o, ho, _⟩ := st₂.2.1; exact ⟨o, ho⟩
  have I₂ := iter_step Wk.sub I hw hB th k₁₂
  have hTn : s.heap.get? T = none := Heap.get?_none_of_le hT
  have hTf := I.fresh hTn
  have rd := rep_step (hit v hv) k₁₂
  have rT : Rep (fun b => (c.O b ∨ b ∈ [e, it]) ∨ W b) h₂ (.tup [.int i, d]) (.ref T) := by
    unfold Rep
    refine ⟨T, [.int i t, v], rfl, ?_, hTf, ?_⟩
    · obtain ⟨o, ho, r⟩ := hTup
      exact ⟨o, k₂ T o hTw ho, r⟩
    · unfold Reps Reps Reps
      exact ⟨_, _, rfl, by unfold Rep; exact ⟨t, rfl⟩, _, _, rfl, rd, rfl⟩
  refine assign_tup (c := c.withO fun b => c.O b ∨ b ∈ [e, it]) (s := { s with heap := h₂, toks := tk }) hh hn hp rfl I₂ rT fun h₃ tk₃ x₃ I₃ => ?_
  refine k h₃ tk₃ ?_ I₃ (Wk.frame _ h₂ h₃ st₂ fun b hb o q => x₃.keep b o (hw b hb).1 (hw b hb).2 q)
  exact ⟨fun b o hb q => x₃.more b o (fun w => hb (.inl w)) (k₁₂ b o (fun m => hb (.inr m)) q), fun b o hb hf q => x₃.keep b o (fun w => hb (.inl w)) hf (k₁₂ b o (fun m => hb (.inr m)) q)⟩
theorem enum_there {e it l : Addr} {items : Array Value} (i : Nat) (h : Heap) (b : Addr) (st : (∃ old, IsEnum h e it i old) ∧ h.IsListIter it l i ∧ h.IsList l items) (hb : b ∈ [e, it, l]) : ∃ o, h.get? b = some o := by
  rcases List.mem_cons.mp hb with rfl | hb
  · obtain ⟨old, ho⟩ := st.1; exact ⟨_, ho⟩
  · rcases List.mem_cons.mp hb with rfl | hb
    · obtain ⟨o, ho, _⟩ := st.2.1; exact ⟨o, ho⟩
    · rw [List.mem_singleton.mp hb]; obtain ⟨o, ho, _⟩ := st.2.2; exact ⟨o, ho⟩
noncomputable def sForE (x y : Nat) (t : TE) (body : TS) : TS := fun ρ Q E => t ρ (fun d => ∃ ds, d = .list ds ∧ loopT (bEnum x y) body 0 ds ρ Q E) E
end
end Mine
end
section
open PySem PySem.W PyProof.Rows PySem.Calls
set_option Elab.async false
set_option linter.all false
set_option autoImplicit false
set_option maxRecDepth 100000
namespace Mine
section
variable {Ω : Wd} {n : Nat} {c : Ctx}
structure SrcOk (Ω : Wd) (A : Around) (c : Ctx) (W : Addr → Prop) (ρ : Rho) (s₀ : Shared) (ds : List D) (v : Value) (s : Shared) (Ia : Addr) (fp wr : List Addr) (P : Nat → Value → Prop) (St : Nat → Heap → Prop) : Prop where
  val : v = .ref Ia
  bk : Bk Ω c W ρ s₀ s
  walk : Walks Ω.prog Ω.w A Ia fp wr ds.length P St
  there : ∀ i h b, St i h → b ∈ fp → ∃ o, h.get? b = some o
  new : ∀ b ∈ wr, s₀.heap.get? b = none
  off : ∀ b ∈ fp, ¬ (c.O b ∨ W b)
  st : St 0 s.heap
  items : ∀ i v d, P i v → ds[i]? = some d → Rep (fun b => (c.O b ∨ b ∈ wr) ∨ W b) s.heap d v
noncomputable abbrev TR := Rho → (List D → Prop) → (Nat → Prop) → Prop
noncomputable def SRC (Ω : Wd) (n : Nat) (c : Ctx) (e : Expr) (T : TR) : Prop :=
  ∀ (A : Around) (W : Addr → Prop) (ρ : Rho) (Q : List D → Prop) (E : Nat → Prop) (s : Shared), AOk c n A → Iv Ω c W ρ s.heap → T ρ Q E →
    wpAny (model Ω.prog Ω.w) A (eval e c.env) (fun x s₁ => wpAny (model Ω.prog Ω.w) A (pyIter x) (fun it s₂ => ∃ ds Ia fp wr P St, SrcOk Ω A c W ρ s ds it s₂ Ia fp wr P St ∧ Q ds) (XPost Ω c W s E) s₁) (XPost Ω c W s E) s
noncomputable def rList (t : TE) : TR := fun ρ Q E => t ρ (fun d => ∃ ds, d = .list ds ∧ Q ds) E
noncomputable def rRange (t : TE) : TR := fun ρ Q E => t ρ (fun d => ∃ k : Nat, d = .int k ∧ k < 2 ^ 20 ∧ Q (il ((List.range k).map Int.ofNat))) E
theorem src_list {e : Expr} {t : TE} (hi : EV Ω n c e t) : SRC Ω n c e (rList t) := by
  intro A W ρ Q E s a I hq
  refine pb (.refl I) (hi A W ρ _ E s a I hq) fun v s₁ b₁ _ ⟨d, rd, ds, hd, hl⟩ => ?_
  subst hd
  unfold Rep at rd
  obtain ⟨ax, vs, rfl, hL, hn, hr⟩ := rd
  have hlt : ax < s₁.heap.objs.size := by obtain ⟨_, e, _⟩ := hL; exact Heap.lt_size e
  refine wpAny_pyIter_list hL ?_
  have hsz : vs.toArray.size = ds.length := by rw [List.size_toArray, hr.length]
  have Wk := Walks.list (prog := Ω.prog) (w := Ω.w) (A := A) a.hd s₁.heap.objs.size ax (Nat.ne_of_lt hlt) vs.toArray
  have b₂ := b₁.step s₁.toks (.push c s₁.heap { cls := .type "list_iterator", data := .fields #[.ref ax, .int 0 0] })
  have hg : s.heap.get? s₁.heap.objs.size = none := b₁.gone (get_size _)
  refine ⟨ds, _, _, _, _, _, ⟨rfl, b₂, hsz ▸ Wk, listwalk_there, fun b hb' => ?_, fun b hb' => ?_, ⟨⟨_, Heap.get?_push_size _ rfl, rfl, rfl⟩, hL.push _⟩, fun i v d hv hd => ?_⟩, hl⟩
  · rw [List.mem_singleton.mp hb']; exact hg
  · rcases List.mem_cons.mp hb' with rfl | hb'
    · exact I.fresh hg
    · rw [List.mem_singleton.mp hb']; exact hn
  · obtain ⟨v', hv', hrv⟩ := hr.get hd
    have : v = v' := by
      have e : vs[i]? = some v := by simpa using hv
      rw [hv'] at e; cases e; rfl
    subst this
    refine Rep.ext (W := fun _ => False) (F := fun _ => False) (.push _ _ _ _) (fun _ q => q.elim) (fun b o e q => ?_) d v hrv
    rcases q with (q | q) | q
    · exact .inl q
    · rw [List.mem_singleton.mp q, get_size] at e; cases e
    · exact .inr q
theorem src_range {np cp : Pos} {e : Expr} {t : TE} (hi : EV Ω n c e t)
    (hx : c.env.kindOf "range" = some .globalImplicit) (hK : nsIn Ω.K mainGlobals "range" = some none)
    (hst : starEach [e] c.env = (false, eval e c.env) :: starEach [] c.env := by with_unfolding_all rfl) : SRC Ω n c (.Call (.Name "range" np) [e] [] cp) (rRange t) := by
  intro A W ρ Q E s a I hq
  refine Call_ (blt_name I hx hK (v := .type "range") (by decide +kernel) (by decide +kernel) (by decide +kernel) ?_)
  refine Pv.callWith_type1 ?_ hst (by rfl)
  rw [hst]
  refine spliced_cons (pb (.refl I) (hi A W ρ _ E s a I hq) fun v s₁ b₁ _ ⟨d, rd, k, hd, hk, hl⟩ => spliced_nil ?_)
  subst hd
  unfold Rep at rd
  obtain ⟨u, rfl⟩ := rd
  refine call_range_1 ?_
  have b₂ := b₁.step (s₁.toks + 1 + 1) (.push c s₁.heap { cls := .type "range", data := .fields #[.int 0 s₁.toks, .int k u, .int 1 (s₁.toks + 1)] })
  generalize hs₂ : ({ s₁ with heap := s₁.heap.push { cls := .type "range", data := .fields #[.int 0 s₁.toks, .int k u, .int 1 (s₁.toks + 1)] }, toks := s₁.toks + 1 + 1 } : Shared) = s₂ at b₂
  have hr₂ : IsRange s₂.heap s₁.heap.objs.size 0 k 1 s₁.toks u (s₁.toks + 1) := by subst hs₂; exact .new ..
  have hsm : Builtin.Range.small 0 (k : Int) 1 = true := small_one (by decide) (by decide) (by omega) (by omega)
  refine wpAny_pyIter_range hr₂ hsm ?_
  have hrs : Builtin.Range.rangeSize 0 (k : Int) 1 = k := by rw [rangeSize_one]; split <;> omega
  rw [hrs]
  have hlen : (il ((List.range k).map Int.ofNat)).length = k := by unfold il; rw [List.length_map, List.length_map, List.length_range]
  have Wk := Walks.range (prog := Ω.prog) (w := Ω.w) (A := A) a.hd s₂.heap.objs.size 0 1 k
  have b₃ := b₂.step s₂.toks (.push c s₂.heap { cls := .type "range_iterator", data := .fields #[rawInt 0, rawInt k, rawInt 1] })
  have hg : s.heap.get? s₂.heap.objs.size = none := b₂.gone (get_size _)
  have th : ∀ i h b, IsRangeIter h s₂.heap.objs.size (0 + ((i : Nat) : Int) * 1) ((k : Int) - ((i : Nat) : Int)) 1 → b ∈ [s₂.heap.objs.size] → ∃ o, h.get? b = some o := fun i h b st hb => by
    rw [List.mem_singleton.mp hb]; exact ⟨_, st⟩
  refine ⟨_, _, _, _, _, _, ⟨rfl, b₃, by rw [hlen]; exact Wk, th, fun b hb' => ?_, fun b hb' => ?_, ?_, fun i v d hv hd => ?_⟩, hl⟩
  · rw [List.mem_singleton.mp hb']; exact hg
  · rw [List.mem_singleton.mp hb']; exact I.fresh hg
  · have : (0 : Int) + ((0 : Nat) : Int) * 1 = 0 := by decide
    have e2 : (k : Int) - ((0 : Nat) : Int) = k := by omega
    show IsRangeIter _ _ (0 + ((0 : Nat) : Int) * 1) ((k : Int) - ((0 : Nat) : Int)) 1
    rw [this, e2]
    exact Heap.get?_push_size _ rfl
  · obtain ⟨t, rfl⟩ := hv
    rw [il_get hd]
    unfold Rep
    exact ⟨t, by rw [Int.zero_add, Int.mul_one]⟩
noncomputable def compEnv (scope : Scope) (cl : List (Str × Addr)) (C : Addr) (env : Env) : Env :=
  { scope := relabel scope env, locals := C, globals := env.globals, cells := cellsFrom (C + 1) scope.names cl, qual := env.qual, func := none, code := env.code, frame := env.frame, builtins := env.builtins }
noncomputable def cctx (c : Ctx) (scope : Scope) (cl : List (Str × Addr)) (C : Addr) (O : Addr → Prop) : Ctx := ⟨compEnv scope cl C c.env, c.fenv, c.L, c.outer, O⟩
noncomputable def closL : List (Str × NameKind) → List (Str × Addr) → List (Str × Addr) → Option (List (Str × Addr))
  | [], _, acc => some acc
  | (x, k) :: r, cells, acc => if k == .free then (match cells.lookup x with | some a => closL r cells ((x, a) :: acc) | none => none) else closL r cells acc
theorem closL_mem {cells : List (Str × Addr)} : ∀ {names : List (Str × NameKind)} {acc cl : List (Str × Addr)}, closL names cells acc = some cl → ∀ y ∈ cl, y ∈ acc ∨ cells.lookup y.1 = some y.2
  | [], acc, cl, h, y, hy => by cases h; exact .inl hy
  | (x, k) :: r, acc, cl, h, y, hy => by
    unfold closL at h
    by_cases hk : (k == .free) = true
    · rw [if_pos hk] at h
      cases hl : cells.lookup x with
      | none => rw [hl] at h; cases h
      | some a =>
        rw [hl] at h
        rcases closL_mem h y hy with q | q
        · rcases List.mem_cons.mp q with rfl | q
          · exact .inr hl
          · exact .inl q
        · exact .inr q
    · rw [if_neg hk] at h
      exact closL_mem h y hy
theorem closureFor_of {scope : Scope} {env : Env} {cl : List (Str × Addr)} (h : closL scope.names env.cells [] = some cl) : closureFor scope env = pure cl := by
  have go : ∀ (names : List (Str × NameKind)) (acc cl : List (Str × Addr)), closL names env.cells acc = some cl →
      (forIn names acc fun x r => match x with | (name, kind) => (do if (kind == NameKind.free) = true then do let a ← cellOf env name; pure (ForInStep.yield ((name, a) :: r)) else pure (ForInStep.yield r) : Sem _)) = pure cl := by
    intro names
    induction names with
    | nil => intro acc cl h; cases h; rfl
    | cons x r ih =>
      intro acc cl h
      obtain ⟨x, k⟩ := x
      unfold closL at h
      rw [List.forIn_cons]
      by_cases hk : (k == .free) = true
      · rw [if_pos hk] at h
        cases hl : env.cells.lookup x with
        | none => rw [hl] at h; cases h
        | some a =>
          rw [hl] at h
          simp only [hk, if_true]
          have e : cellOf env x = pure a := by unfold cellOf; rw [hl]
          rw [e]
          simp only [pure_bind]
          exact ih _ _ h
      · rw [if_neg hk] at h
        simp only [if_neg hk, pure_bind]
        exact ih _ _ h
  unfold closureFor
  exact (congrArg (fun t : Sem (List (Str × Addr)) => t >>= fun r => pure r) (go scope.names [] cl h)).trans (pure_bind _ _)
theorem cellsFrom_gen : ∀ (names : List (Str × NameKind)) (h : Heap) (acc : List (Str × Addr)), (∀ y ∈ acc, y.2 < h.objs.size) → acc.Pairwise (fun x y => x.2 ≠ y.2) →
    (cellsFrom h.objs.size names acc).Pairwise (fun x y => x.2 ≠ y.2) ∧ ∀ y ∈ cellsFrom h.objs.size names acc, y ∈ acc ∨ (h.objs.size ≤ y.2 ∧ (pushCells h names).IsCell y.2 none)
  | [], h, acc, hb, hp => ⟨hp, fun y hy => .inl hy⟩
  | (x, k) :: r, h, acc, hb, hp => by
    unfold cellsFrom pushCells
    by_cases hk : (k == .cell) = true
    · rw [if_pos hk, if_pos hk]
      have hz : (h.push { cls := .type "cell", data := .cell none }).objs.size = h.objs.size + 1 := Heap.size_push ..
      have ih := cellsFrom_gen r (h.push { cls := .type "cell", data := .cell none }) ((x, h.objs.size) :: acc) (fun y hy => by
          rw [hz]
          rcases List.mem_cons.mp hy with rfl | hy
          · exact Nat.lt_succ_self _
          · exact Nat.lt_succ_of_lt (hb y hy)) (List.pairwise_cons.mpr ⟨fun y hy e => Nat.lt_irrefl _ ((show h.objs.size = y.2 from e) ▸ hb y hy), hp⟩)
      rw [hz] at ih
      refine ⟨ih.1, fun y hy => ?_⟩
      rcases ih.2 y hy with q | ⟨q1, q2⟩
      · rcases List.mem_cons.mp q with rfl | q
        · exact .inr ⟨Nat.le_refl _, IsCell.ext (W := fun _ => False) (F := fun _ => False) ⟨_, Heap.get?_push_size _ rfl, rfl⟩ (.of_keep fun b o _ e => pushCells_keeps _ _ b o e) id⟩
        · exact .inl q
      · exact .inr ⟨Nat.le_of_succ_le q1, q2⟩
    · rw [if_neg hk, if_neg hk]
      exact cellsFrom_gen r h acc hb hp
theorem newEnv_comp {M : Model} {A : Around} {E : Value → Shared → Prop} {scope : Scope} {env : Env} {cl : List (Str × Addr)} {s : Shared} {Q : Env → Shared → Prop}
    (h : Q (newEnv scope s.heap.objs.size env.globals (cellsFrom (s.heap.objs.size + 1) scope.names cl) env.qual none .none (some env) builtinsNs) { s with heap := pushCells (s.heap.push { cls := .type "dict", data := .dict #[] }) scope.names }) :
    wpAny M A (newFunctionEnv scope env.globals cl [] env.qual none .none (some env)) Q E s := by
  simp only [newFunctionEnv, Option.isSome_some, if_true]
  refine wpAny_bind (wpAny_alloc ?_)
  refine wpAny_bind (wpAny_layCells _ (fun name kind cells => by cases hkc : kind == NameKind.cell <;> simp [hkc]) _ _ _ _ ?_)
  rw [show ({ s with heap := s.heap.push { cls := .type "dict", data := .dict #[] } } : Shared).heap.objs.size = s.heap.objs.size + 1 from Heap.size_push ..]
  rw [List.forIn_nil]
  exact wpAny_bind (wpAny_pure (wpAny_pure h))
noncomputable def nodupB : List Str → Bool
  | [] => true
  | x :: r => !r.contains x && nodupB r
theorem nodupB_ok : ∀ {l : List Str}, nodupB l = true → l.Nodup
  | [], _ => .nil
  | x :: r, h => by
    simp only [nodupB, Bool.and_eq_true, Bool.not_eq_true', List.contains_eq_mem, decide_eq_false_iff_not] at h
    exact List.nodup_cons.mpr ⟨h.1, nodupB_ok h.2⟩
noncomputable def restr (fv : List Nat) (ρ : Rho) : Rho := fun j => if j ∈ fv then (match ρ j with | some (.val d) => some (.val d) | _ => none) else none
noncomputable def FvOk (c : Ctx) (scope : Scope) (cl : List (Str × Addr)) (fv : List Nat) : Prop :=
  ∀ j ∈ fv, c.env.kindOf (nm j) ≠ some .local ∧ ∀ C, (compEnv scope cl C c.env).kindOf (nm j) = some .cell ∧ (compEnv scope cl C c.env).cells.lookup (nm j) = c.env.cells.lookup (nm j)
theorem comp_iv {W V : Addr → Prop} {ρ : Rho} {h h' : Heap} {scope : Scope} {cl : List (Str × Addr)} {fv : List Nat} {C : Addr} (I : Iv Ω c W ρ h) (hc : closL scope.names c.env.cells [] = some cl) (hkind : scope.kind = .function) (hnd : nodupB (cl.map (·.1)) = true)
    (hfv : FvOk c scope cl fv) (x : EExt c h h') (hCn : h.get? C = none) (hCs : Ω.base.objs.size ≤ C) (hC : h'.Ns C fun _ => none)
    (hcells : (cellsFrom (C + 1) scope.names cl).Pairwise (fun x y => x.2 ≠ y.2) ∧ ∀ y ∈ cellsFrom (C + 1) scope.names cl, y ∈ cl ∨ (C < y.2 ∧ h.get? y.2 = none ∧ h'.IsCell y.2 none))
    (hV : ∀ b, V b → h.get? b = none ∧ ∃ o, h'.get? b = some o) (hVC : ¬ V C) (hVc : ∀ y ∈ cellsFrom (C + 1) scope.names cl, ¬ V y.2) :
    Iv Ω (cctx c scope cl C fun b => c.O b ∨ V b) (fun b => W b ∨ b = C ∨ ∃ y ∈ cellsFrom (C + 1) scope.names cl, y.2 = b) (restr fv ρ) h' := by
  have J := I.eext x
  have inCl : ∀ y ∈ cl, y ∈ c.env.cells := fun y hy => by
    rcases closL_mem hc y hy with q | q
    · cases q
    · exact mem_of_lookup q
  have ex : ∀ b, W b ∨ c.O b → ∃ o, h.get? b = some o := I.there
  have newD : ∀ b, h.get? b = none → ¬ W b ∧ ¬ c.O b := fun b e => ⟨fun w => I.fresh e (.inr w), fun w => I.fresh e (.inl w)⟩
  refine ⟨J.keep, fun b hb => ?_, J.ns0, .inl I.wL, .inr (.inl rfl), fun y hy => .inr (.inr ⟨y, hy, rfl⟩), fun y hy => ?_, fun y hy => ?_, fun b hb f => ?_, fun b f => .inl (I.FO b f), fun b hb => ?_, hcells.1, I.frL, hkind, I.glob, I.blt, J.frs, ?_⟩
  · rcases hb with hb | rfl | ⟨y, hy, rfl⟩
    · exact I.wabove b hb
    · exact hCs
    · rcases hcells.2 y hy with q | q
      · exact I.wabove _ (I.wcell y (inCl y q))
      · exact Nat.le_of_lt (Nat.lt_of_le_of_lt hCs q.1)
  · rcases hcells.2 y hy with q | q
    · refine ⟨(I.cellL y (inCl y q)).1, fun e => ?_⟩
      obtain ⟨v, o, ho, _⟩ := I.cellIs y (inCl y q)
      rw [show y.2 = C from e, hCn] at ho; cases ho
    · refine ⟨fun e => ?_, fun e => Nat.lt_irrefl _ ((show y.2 = C from e) ▸ q.1)⟩
      obtain ⟨o, ho⟩ := ex c.L (.inl I.wL)
      rw [← show y.2 = c.L from e, q.2.1] at ho; cases ho
  · rcases hcells.2 y hy with q | q
    · exact J.cellIs y (inCl y q)
    · exact ⟨none, q.2.2⟩
  · have fO : c.O b := I.FO b f
    rcases hb with hb | rfl | ⟨y, hy, rfl⟩
    · exact I.wF b hb f
    · exact (newD _ hCn).2 fO
    · rcases hcells.2 y hy with q | q
      · exact I.wF _ (I.wcell y (inCl y q)) f
      · exact (newD _ q.2.1).2 fO
  · rcases hb with (hb | rfl | ⟨y, hy, rfl⟩) | (hb | hb)
    · exact J.there b (.inl hb)
    · obtain ⟨o, _, _, ho, _⟩ := hC; exact ⟨o, ho⟩
    · rcases hcells.2 y hy with q | q
      · obtain ⟨v, o, ho, _⟩ := J.cellIs y (inCl y q); exact ⟨o, ho⟩
      · obtain ⟨o, ho, _⟩ := q.2.2; exact ⟨o, ho⟩
    · exact J.there b (.inr hb)
    · exact (hV b hb).2
  · refine ⟨fun _ => none, fun _ => 0, hC, fun j sl hj => ?_, fun a b ds es ha hb => ?_⟩
    · unfold restr at hj
      split at hj
      · rename_i hjf
        split at hj
        · rename_i d hd
          cases hj
          obtain ⟨hk, hkC⟩ := hfv j hjf
          obtain ⟨hk2, hlk⟩ := hkC C
          obtain ⟨m, α, hm, hv, _⟩ := I.vars
          obtain ⟨h39, v, hat, hr⟩ := hv j _ hd
          have hr' : Rep (fun b => c.O b ∨ W b) h d v := hr
          rcases hat with ⟨q, _⟩ | ⟨_, a, ha, hcell⟩
          · exact absurd q hk
          · refine ⟨h39, v, .inr ⟨.inl hk2, a, hlk.trans ha, IsCell.ext hcell x.ext ((I.cellL _ (mem_of_lookup ha)).1)⟩, ?_⟩
            refine Rep.ext x.ext (fun b hb => .inr (hb ▸ I.wL)) (fun b o e q => ?_) d v hr'
            rcases q with (q | q) | q | rfl | ⟨y, hy, rfl⟩
            · exact .inl q
            · rw [(hV b q).1] at e; cases e
            · exact .inr q
            · rw [hCn] at e; cases e
            · rcases hcells.2 y hy with q | q
              · exact .inr (I.wcell y (inCl y q))
              · rw [q.2.1] at e; cases e
        · cases hj
      · cases hj
    · unfold restr at ha
      split at ha
      · split at ha <;> cases ha
      · cases ha
end
end Mine
end
section
open PySem PySem.W PyProof.Rows PySem.Calls
set_option Elab.async false
set_option linter.all false
set_option autoImplicit false
set_option maxRecDepth 100000
namespace Mine
section
variable {Ω : Wd} {n : Nat} {c : Ctx}
theorem store' {W : Addr → Prop} {ρ : Rho} {s : Shared} {i : Nat} {d : D} {v : Value} {A : Around} {M : Model} {E : Value → Shared → Prop} {K : Unit → Shared → Prop} (I : Iv Ω c W ρ s.heap) (hp : Place c i) (r : Rep (fun b => c.O b ∨ W b) s.heap d v)
    (k : ∀ w h' tk, W w → (w = c.env.locals ∨ (nm i, w) ∈ c.env.cells) → Heap.SameBut w s.heap h' → Iv Ω c W (upd ρ i (.val d)) h' → K () { s with heap := h', toks := tk }) : wpAny M A (storeName c.env (nm i) v) K E s := by
  obtain ⟨hi, hk | ⟨hk, hc⟩⟩ := hp
  · obtain ⟨m, α, hm, _⟩ := I.vars
    exact wpAny_storeName_local hk hm (fun h' hn hs => k _ h' _ I.wenv (.inl rfl) hs (I.setLocal hi hk hm hn hs r)) (by rw [I.kind]; rfl)
  · obtain ⟨ad, ha⟩ := Option.isSome_iff_exists.mp hc
    obtain ⟨v₀, hv₀⟩ := I.cellIs _ (mem_of_lookup ha)
    exact wpAny_storeName_cell I.kind hk ha hv₀ fun h' hn hs => k _ h' s.toks (I.wcell _ (mem_of_lookup ha)) (.inr (mem_of_lookup ha)) hs (I.setCell hi hk ha hn hs r)
noncomputable def EVt (Ω : Wd) (n : Nat) (c : Ctx) (ifs : List Expr) (T : TB) : Prop :=
  ∀ (A : Around) (W : Addr → Prop) (ρ : Rho) (Q : Bool → Prop) (E : Nat → Prop) (s : Shared), AOk c n A → Iv Ω c W ρ s.heap → T ρ Q E →
    wpAny (model Ω.prog Ω.w) A (forIn ifs true fun t r => if r = true then do let ok ← isTrue t c.env (eval t c.env); pure (ForInStep.yield ok) else pure (ForInStep.yield r)) (Post Ω c W ρ s (fun _ b => Q b)) (XPost Ω c W s E) s
noncomputable def bYes : TB := fun _ Q _ => Q true
theorem evt_nil : EVt Ω n c [] bYes := by
  intro A W ρ Q E s a I hq
  rw [List.forIn_nil]
  exact wpAny_pure (post_here' I hq)
theorem evt_one {t : Expr} {T : TB} (h : TV Ω n c t T) : EVt Ω n c [t] T := by
  intro A W ρ Q E s a I hq
  rw [List.forIn_cons]
  simp only [if_true]
  refine wpAny_bind (wpAny_bind (pb (.refl I) (h A W ρ _ E s a I hq) fun b s₁ b₁ _ q => wpAny_pure ?_))
  simp only [List.forIn_nil]
  exact wpAny_pure (pl b₁ q)
noncomputable def compT (x : Nat) (tt : TB) (te : TE) (ρ : Rho) : List D → List D → (List D → Prop) → Prop
  | [], acc, Q => Q acc
  | d :: ds, acc, Q => tt (upd ρ x (.val d)) (fun b => if b then te (upd ρ x (.val d)) (fun r => compT x tt te ρ ds (acc ++ [r]) Q) (fun _ => False) else compT x tt te ρ ds acc Q) (fun _ => False)
theorem upd_upd (ρ : Rho) (x : Nat) (a b : Sl) : upd (upd ρ x a) x b = upd ρ x b := by
  funext j; unfold upd; split <;> rfl
theorem pair_addr {cl cells : List (Str × Addr)} (hn : (cl.map (·.1)).Nodup) (hl : ∀ y ∈ cl, cells.lookup y.1 = some y.2) (ap : cells.Pairwise (fun x y => x.2 ≠ y.2)) : cl.Pairwise (fun x y => x.2 ≠ y.2) := by
  have h1 : cl.Pairwise (fun x y => x.1 ≠ y.1) := List.pairwise_map.mp hn
  refine h1.imp_of_mem fun {x y} hx hy hne e => hne ?_
  have e1 := mem_of_lookup (hl x hx)
  have e2 := mem_of_lookup (hl y hy)
  rw [e] at e1
  exact name_of_addr ap e1 e2
theorem comp_core {elt iter : Expr} {x : Nat} {px : Pos} {ifs : List Expr} {scope : Scope} {cl : List (Str × Addr)} {pos : Pos} {fv : List Nat} {A : Around} {W : Addr → Prop} {ρ : Rho} {s₀ s₂ : Shared} {ds : List D} {Ia : Addr} {fp wr : List Addr} {P : Nat → Value → Prop} {St : Nat → Heap → Prop}
    {tt : TB} {te : TE} {Qout : List D → Prop} {RR : Value → Addr → Result → Shared → Prop} {E : Value → Shared → Prop} (a : AOk c n A) (I₀ : Iv Ω c W ρ s₀.heap) (S : SrcOk Ω A c W ρ s₀ ds (.ref Ia) s₂ Ia fp wr P St)
    (hc : closL scope.names c.env.cells [] = some cl) (hkind : scope.kind = .function) (hnd : nodupB (cl.map (·.1)) = true) (hfv : FvOk c scope cl fv)
    (hp : ∀ C O, Place (cctx c scope cl C O) x) (hxcl : cl.lookup (nm x) = none)
    (ht : ∀ C O, EVt Ω n (cctx c scope cl C O) ifs tt) (he : ∀ C O, EV Ω n (cctx c scope cl C O) elt te) (hlen : ds.length ≤ 4096)
    (hq : compT x tt te (restr fv ρ) ds [] Qout)
    (hRR : ∀ D C h' tk m vs k out, Qout out → s₀.heap.get? D = none → s₀.heap.get? C = none → D ≠ C → h'.Ns C m → h'.get? D = some (lobj vs k) → Reps (fun b => (c.O b ∨ W b) ∨ b = C) h' out vs → EExt c s₀.heap h' → out.length ≤ ds.length →
      RR (.ref D) C (.ok .next) { s₀ with heap := h', toks := tk }) :
    wpAny (model Ω.prog Ω.w) A (newList []) (fun acc s₃ => wpAny (model Ω.prog Ω.w) A (newFunctionEnv scope c.env.globals cl [] c.env.qual none .none (some c.env)) (fun cenv s₄ =>
      codeAny (model Ω.prog Ω.w) A (.compStart (.ListComp elt [⟨.Name (nm x) px, iter, ifs, 0⟩] scope pos) 0 (.ref Ia) acc { cenv with scope := relabel scope c.env }) (RR acc cenv.locals) s₄) E s₃) E s₂ := by
  obtain ⟨hs₂, tk₂, rfl, x₂, I₂⟩ := S.bk
  refine wpAny_newObj_type (newEnv_comp ?_)
  let Dd : Addr := hs₂.objs.size
  let H2 : Heap := hs₂.push (lobj [] 0)
  let C : Addr := H2.objs.size
  have hCz : C = Dd + 1 := Heap.size_push ..
  let H3 : Heap := H2.push { cls := .type "dict", data := .dict #[] }
  have hz3 : H3.objs.size = C + 1 := Heap.size_push ..
  let h₁ : Heap := pushCells H3 scope.names
  have up₁ : ∀ b o, hs₂.get? b = some o → h₁.get? b = some o := fun b o e => pushCells_keeps _ _ b o (Heap.get?_push_of_some _ (Heap.get?_push_of_some _ e))
  have hDg : h₁.get? Dd = some (lobj [] 0) := pushCells_keeps _ _ _ _ (Heap.get?_push_of_some _ (Heap.get?_push_size _ rfl))
  have hCns : h₁.Ns C fun _ => none := (Heap.Ns.new H2 (.type "dict")).keeps (pushCells_keeps _ _)
  have nD : hs₂.get? Dd = none := get_size _
  have nC : hs₂.get? C = none := Heap.get?_none_of_le (by rw [hCz]; exact Nat.le_succ _)
  have g₀ : ∀ b, hs₂.get? b = none → s₀.heap.get? b = none := fun b e => S.bk.gone e
  have hDC : Dd ≠ C := by rw [hCz]; exact Nat.ne_of_lt (Nat.lt_succ_self _)
  have inCl : ∀ y ∈ cl, c.env.cells.lookup y.1 = some y.2 := fun y hy => (closL_mem hc y hy).resolve_left fun q => by cases q
  have clLt : ∀ y ∈ cl, y.2 < hs₂.objs.size := fun y hy => by
    obtain ⟨v, o, ho, _⟩ := I₂.cellIs y (mem_of_lookup (inCl y hy))
    exact Heap.lt_size ho
  have cg := cellsFrom_gen scope.names H3 cl (fun y hy => by rw [hz3, hCz]; exact Nat.lt_succ_of_lt (Nat.lt_succ_of_lt (clLt y hy))) (pair_addr (nodupB_ok hnd) inCl I₂.apart)
  rw [hz3] at cg
  have cellNew : ∀ y ∈ cellsFrom (C + 1) scope.names cl, y ∈ cl ∨ (C < y.2 ∧ hs₂.get? y.2 = none ∧ h₁.IsCell y.2 none) := fun y hy => (cg.2 y hy).imp id fun q =>
    ⟨q.1, Heap.get?_none_of_le (Nat.le_trans (by rw [hCz]; exact Nat.le_succ_of_le (Nat.le_succ _)) q.1), q.2⟩
  let V : Addr → Prop := fun b => b ∈ wr ∨ b = Dd
  let O₂ : Addr → Prop := fun b => c.O b ∨ V b
  let W₂ : Addr → Prop := fun b => W b ∨ b = C ∨ ∃ y ∈ cellsFrom (C + 1) scope.names cl, y.2 = b
  let c₂ := cctx c scope cl C O₂
  have x₁ : EExt c s₀.heap h₁ := x₂.trans (.of_keep up₁)
  have wrOld : ∀ b ∈ wr, ∃ o, hs₂.get? b = some o := fun b hb => S.there 0 hs₂ b S.st (S.walk.sub b hb)
  have wrC : ∀ b ∈ wr, b < Dd := fun b hb => by obtain ⟨o, ho⟩ := wrOld b hb; exact Heap.lt_size ho
  have fpLt : ∀ b ∈ fp, b < Dd := fun b hb => by obtain ⟨o, ho⟩ := S.there 0 hs₂ b S.st hb; exact Heap.lt_size ho
  have cellOff : ∀ y ∈ cellsFrom (C + 1) scope.names cl, ¬ V y.2 := fun y hy q => by
    rcases cellNew y hy with h1 | h1
    · have w := I₂.wcell y (mem_of_lookup (inCl y h1))
      rcases q with q | q
      · exact S.off _ (S.walk.sub _ q) (.inr w)
      · have := clLt y h1; rw [q] at this; exact Nat.lt_irrefl _ this
    · rcases q with q | q
      · have := wrC _ q
        have h2 := h1.1
        rw [hCz] at h2
        exact Nat.lt_irrefl _ (Nat.lt_trans this (Nat.lt_of_succ_lt h2))
      · have h2 := h1.1
        rw [q, hCz] at h2
        exact Nat.lt_irrefl _ (Nat.lt_of_succ_lt h2)
  have I₁ : Iv Ω c₂ W₂ (restr fv ρ) h₁ := comp_iv (V := V) I₀ hc hkind hnd hfv x₁ (g₀ C nC) (Nat.le_trans I₂.base_size (by rw [hCz]; exact Nat.le_succ _)) hCns
    ⟨cg.1, fun y hy => (cellNew y hy).imp id fun q => ⟨q.1, g₀ _ q.2.1, q.2.2⟩⟩
    (fun b hb => by
      rcases hb with hb | rfl
      · obtain ⟨o, ho⟩ := wrOld b hb
        exact ⟨S.new b hb, o, up₁ b o ho⟩
      · exact ⟨g₀ _ nD, _, hDg⟩)
    (fun q => by
      rcases q with q | q
      · have := wrC _ q; rw [hCz] at this; exact Nat.lt_irrefl _ (Nat.lt_of_succ_lt this)
      · exact hDC q.symm) cellOff
  have a₂ : AOk c₂ n A := ⟨a.hd, a.frames, a.depth, a.units⟩
  have new₀ : ∀ b, V b ∨ b = C ∨ (∃ y ∈ cellsFrom (C + 1) scope.names cl, y ∉ cl ∧ y.2 = b) → s₀.heap.get? b = none := fun b hb => by
    rcases hb with (hb | rfl) | rfl | ⟨y, hy, hn, rfl⟩
    · exact S.new b hb
    · exact g₀ _ nD
    · exact g₀ _ nC
    · exact g₀ _ ((cellNew y hy).resolve_left hn).2.1
  have baseNo : ∀ b, V b → Ω.base.get? b = none := fun b hb => by
    cases q : Ω.base.get? b with
    | none => rfl
    | some o => have := I₀.keep b o q; rw [new₀ b (.inl hb)] at this; cases this
  have VoffW : ∀ b, V b → ¬ W₂ b := fun b hb w => by
    rcases w with w | rfl | ⟨y, hy, rfl⟩
    · exact I₀.fresh (new₀ b (.inl hb)) (.inr w)
    · rcases hb with hb | hb
      · have := wrC _ hb; rw [hCz] at this; exact Nat.lt_irrefl _ (Nat.lt_of_succ_lt this)
      · exact hDC hb.symm
    · exact cellOff y hy hb
  have VoffF : ∀ b, V b → ¬ c.F b := fun b hb f => I₀.fresh (new₀ b (.inl hb)) (.inl (I₀.FO b f))
  have fpW : ∀ b ∈ fp, ¬ W₂ b := fun b hb w => by
    rcases w with w | rfl | ⟨y, hy, rfl⟩
    · exact S.off b hb (.inr w)
    · have := fpLt _ hb; rw [hCz] at this; exact Nat.lt_irrefl _ (Nat.lt_of_succ_lt this)
    · rcases cellNew y hy with h1 | h1
      · exact S.off _ hb (.inr (I₂.wcell y (mem_of_lookup (inCl y h1))))
      · have h2 := h1.1
        rw [hCz] at h2
        exact Nat.lt_irrefl _ (Nat.lt_trans (fpLt _ hb) (Nat.lt_of_succ_lt h2))
  have fpD : ∀ b ∈ fp, b ≠ Dd := fun b hb e => by have := fpLt b hb; rw [e] at this; exact Nat.lt_irrefl _ this
  have fpF : ∀ b ∈ fp, ¬ c.F b := fun b hb f => S.off b hb (.inl (I₀.FO b f))
  have xnew : x ∉ cl.map (fun y => 0) ∨ True := .inr trivial
  -- changes at new things alone
  have stepN : ∀ {h h' : Heap}, EExt c s₀.heap h → (∀ b o, ¬ (V b ∨ b = C ∨ (∃ y ∈ cellsFrom (C + 1) scope.names cl, y ∉ cl ∧ y.2 = b)) → h.get? b = some o → h'.get? b = some o) → EExt c s₀.heap h' := fun {h h'} e k => by
    have off : ∀ b o, s₀.heap.get? b = some o → ¬ (V b ∨ b = C ∨ (∃ y ∈ cellsFrom (C + 1) scope.names cl, y ∉ cl ∧ y.2 = b)) := fun b o e' q => by rw [new₀ b q] at e'; cases e'
    refine ⟨⟨fun b o hb e' => ?_, fun b o hb hf e' => k b o (off b o e') (e.ext.keep b o hb hf e')⟩, fun m hm => ?_⟩
    · obtain ⟨o', ho', s1⟩ := e.ext.more b o hb e'
      exact ⟨o', k b o' (off b o e') ho', s1⟩
    · obtain ⟨o, ho⟩ := I₀.there c.L (.inl I₀.wL)
      obtain ⟨o', es, ep, ho', r⟩ := e.ns m hm
      exact ⟨o', es, ep, k _ _ (off c.L o ho) ho', r⟩
  let J : Nat → Shared → Prop := fun k s' => ∃ i h' tk ρ' vs kk out, s' = { s₀ with heap := h', toks := tk } ∧ k = ds.length + 1 - i ∧ i ≤ ds.length ∧ Iv Ω c₂ W₂ ρ' h' ∧ (∀ d, upd ρ' x (.val d) = upd (restr fv ρ) x (.val d)) ∧ EExt c s₀.heap h' ∧ St i h' ∧
    h'.get? Dd = some (lobj vs kk) ∧ Reps (fun b => O₂ b ∨ W₂ b) h' out vs ∧ out.length ≤ i ∧ (∀ j v d, P j v → ds[j]? = some d → Rep (fun b => O₂ b ∨ W₂ b) h' d v) ∧ compT x tt te (restr fv ρ) (ds.drop i) out Qout
  have start : J (ds.length + 1) { s₀ with heap := h₁, toks := tk₂ } := by
    refine ⟨0, h₁, tk₂, restr fv ρ, [], 0, [], rfl, rfl, Nat.zero_le _, I₁, fun _ => rfl, x₁, S.walk.frame 0 hs₂ h₁ S.st (fun b _ o e => up₁ b o e), hDg, by unfold Reps; rfl, Nat.le_refl _, fun j v d hv hd => ?_, by rw [List.drop_zero]; exact hq⟩
    refine Rep.ext (W := fun _ => False) (F := fun _ => False) (.of_keep fun b o _ e => up₁ b o e) (fun _ q => q.elim) (fun b o e q => ?_) d v (S.items j v d hv hd)
    rcases q with (q | q | rfl) | q | rfl | ⟨y, hy, rfl⟩
    · exact .inl (.inl q)
    · exact .inl (.inr q)
    · rw [show hs₂.get? Dd = none from nD] at e; cases e
    · exact .inr q
    · rw [show hs₂.get? C = none from nC] at e; cases e
    · rcases cellNew y hy with h1 | h1
      · exact .inr (I₂.wcell y (mem_of_lookup (inCl y h1)))
      · rw [show hs₂.get? y.2 = none from h1.2.1] at e; cases e
  have loop : ∀ s₃ : Shared, J (ds.length + 1) s₃ → codeAny (model Ω.prog Ω.w) A (.compLoop (.ListComp elt [⟨.Name (nm x) px, iter, ifs, 0⟩] scope pos) 0 (.ref Ia) (.ref Dd) c₂.env) (RR (.ref Dd) C) s₃ := by
    intro s₃ hJ
    refine codeAny_compLoop_tests J ?_ (ds.length + 1) hJ
    rintro k s' ⟨i, h', tk, ρ', vs, kk, out, rfl, rfl, hi, I, hρ, xe, st, hD, hr, hol, it, hl⟩
    rcases Nat.lt_or_ge i ds.length with hlt | hge
    · have hd : ds[i]? = some ds[i] := List.getElem?_eq_getElem hlt
      rw [List.drop_eq_getElem_cons hlt] at hl
      refine S.walk.item i _ _ _ hlt st fun v h₃ tk₃ hPv st₃ k₃ => ?_
      have k₃' : ∀ b o, ¬ V b → h'.get? b = some o → h₃.get? b = some o := fun b o hb e => k₃ b o (fun m => hb (.inl m)) e
      have hDw : Dd ∉ wr := fun m => Nat.lt_irrefl _ (wrC _ m)
      have I₃ : Iv Ω c₂ W₂ ρ' h₃ := Iv.step (c := c₂) (O₁ := O₂) (O₂ := O₂) (V := fun b => b ∈ wr) I (fun b o hb e => k₃ b o hb e) (fun b hb => ⟨.inr (.inl hb), VoffW b (.inl hb), baseNo b (.inl hb), VoffF b (.inl hb)⟩) (fun _ q => q) I.FO fun b hb => by
        by_cases q : b ∈ wr
        · exact S.there _ h₃ b st₃ (S.walk.sub b q)
        · obtain ⟨o, ho⟩ := I.there b (.inr hb)
          exact ⟨o, k₃ b o q ho⟩
      have xw : Ext (fun b => b ∈ wr) (fun _ => False) h' h₃ := .of_keep fun b o hb e => k₃ b o hb e
      have wrO : ∀ b, b ∈ wr → O₂ b ∨ W₂ b := fun b hb => .inl (.inr (.inl hb))
      have rd : Rep (fun b => O₂ b ∨ W₂ b) h₃ ds[i] v := Rep.ext xw wrO (fun _ _ _ z => z) _ v (it i v _ hPv hd)
      refine assign_Name (store' (c := c₂) (s := { s₀ with heap := h₃, toks := tk₃ }) I₃ (hp C O₂) rd fun w h₄ tk₄ hw hwa hs₄ I₄ => ?_)
      have wNew : V w ∨ w = C ∨ (∃ y ∈ cellsFrom (C + 1) scope.names cl, y ∉ cl ∧ y.2 = w) := by
        rcases hwa with q | q
        · exact .inr (.inl q)
        · refine .inr (.inr ⟨_, q, fun m => ?_, rfl⟩)
          have := lookup_of_mem_nodup (nodupB_ok hnd) m
          rw [hxcl] at this; cases this
      have xe₄ : EExt c s₀.heap h₄ := stepN (stepN xe fun b o hb e => k₃' b o (fun q => hb (.inl q)) e) fun b o hb e => (hs₄.2 b fun (q : b = w) => hb (q ▸ wNew)).trans e
      have wD : w ≠ Dd := fun q => VoffW Dd (.inr rfl) (q ▸ hw)
      have st₄ : St (i + 1) h₄ := S.walk.frame _ h₃ h₄ st₃ fun b hb o e => (hs₄.2 b fun (q : b = w) => fpW b hb (q ▸ hw)).trans e
      have hD₄ : h₄.get? Dd = some (lobj vs kk) := (hs₄.2 Dd (Ne.symm wD)).trans (k₃ Dd _ hDw hD)
      have up₄ : ∀ d v, Rep (fun b => O₂ b ∨ W₂ b) h' d v → Rep (fun b => O₂ b ∨ W₂ b) h₄ d v := fun d v r =>
        Rep.ext (F := fun _ => False) (ext_but hs₄) (fun b hb => .inr (hb ▸ hw)) (fun _ _ _ z => z) d v (Rep.ext xw wrO (fun _ _ _ z => z) d v r)
      have hr₄ : Reps (fun b => O₂ b ∨ W₂ b) h₄ out vs := Reps.ext (F := fun _ => False) (ext_but hs₄) (fun b hb => .inr (hb ▸ hw)) (fun _ _ _ z => z) out vs (Reps.ext xw wrO (fun _ _ _ z => z) out vs hr)
      have hl' : tt (upd ρ' x (.val ds[i])) (fun b => if b then te (upd ρ' x (.val ds[i])) (fun r => compT x tt te (restr fv ρ) (ds.drop (i + 1)) (out ++ [r]) Qout) (fun _ => False) else compT x tt te (restr fv ρ) (ds.drop (i + 1)) out Qout) (fun _ => False) := by
        rw [hρ]; exact hl
      -- an expression inside
      have eback : ∀ {h h' : Heap}, EExt c₂ h h' → EExt c h h' := fun e => ⟨e.ext, e.ns⟩
      refine wpAny_mono (ht C O₂ A W₂ _ _ (fun _ => False) { s₀ with heap := h₄, toks := tk₄ } a₂ I₄ hl') (fun ok s₅ p => ?_) fun v s₅ p => by obtain ⟨_, _, _, _, _, _, hE, _⟩ := p; exact hE.elim
      obtain ⟨h₅, tk₅, rfl, e₅, I₅, hb⟩ := p
      have L₂ : c₂.L = c.L := rfl
      have keepD : ∀ {h h' : Heap} {vs kk}, EExt c₂ h h' → h.get? Dd = some (lobj vs kk) → h'.get? Dd = some (lobj vs kk) := fun e g => e.ext.keep Dd _ (fun q => VoffW Dd (.inr rfl) (q ▸ .inl I₀.wL)) (VoffF Dd (.inr rfl)) g
      have keepSt : ∀ {h h' : Heap} {j}, EExt c₂ h h' → St j h → St j h' := fun e s => S.walk.frame _ _ _ s fun b hb o g => e.ext.keep b o (fun q => fpW b hb (q ▸ .inl I₀.wL)) (fpF b hb) g
      have LO : O₂ c₂.L ∨ W₂ c₂.L := .inr (.inl I₀.wL)
      have xe₅ : EExt c s₀.heap h₅ := xe₄.trans (eback e₅)
      have it₅ : ∀ j v d, P j v → ds[j]? = some d → Rep (fun b => O₂ b ∨ W₂ b) h₅ d v := fun j v d hv hd => (up₄ d v (it j v d hv hd)).eext e₅ LO
      have hr₅ := hr₄.eext e₅ LO
      have hρ' : ∀ d, upd (upd ρ' x (.val ds[i])) x (.val d) = upd (restr fv ρ) x (.val d) := fun d => by rw [upd_upd, hρ]
      cases ok with
      | false =>
        rw [if_neg Bool.false_ne_true]
        have hb' : compT x tt te (restr fv ρ) (ds.drop (i + 1)) out Qout := by simpa using hb
        exact ⟨ds.length + 1 - (i + 1), lt_less hlt, i + 1, h₅, tk₅, _, vs, kk, out, rfl, rfl, hlt, I₅, hρ', xe₅, keepSt e₅ st₄, keepD e₅ hD₄, hr₅, Nat.le_succ_of_le hol, it₅, hb'⟩
      | true =>
        rw [if_pos rfl]
        have hb' : te (upd ρ' x (.val ds[i])) (fun r => compT x tt te (restr fv ρ) (ds.drop (i + 1)) (out ++ [r]) Qout) (fun _ => False) := by simpa using hb
        refine wpAny_mono (he C O₂ A W₂ _ _ (fun _ => False) { s₀ with heap := h₅, toks := tk₅ } a₂ I₅ hb') (fun y s₆ p => ?_) fun v s₆ p => by obtain ⟨_, _, _, _, _, _, hE, _⟩ := p; exact hE.elim
        obtain ⟨h₆, tk₆, rfl, e₆, I₆, r, hrep, hQ⟩ := p
        have hD₆ := keepD e₆ (keepD e₅ hD₄)
        have hr₆ := hr₅.eext e₆ LO
        refine append_at hD₆ (fun h₇ hs₇ ho₇ => ?_) (by rw [sizeLine_eq, List.size_toArray, hr₆.length]; exact Nat.le_trans hol (Nat.le_trans (Nat.le_of_lt hlt) (Nat.le_trans hlen (by decide))))
        have ho₇' : h₇.get? Dd = some (lobj (vs ++ [y]) (kk + 1)) := by rw [ho₇]; simp
        have DO : ∀ b, b = Dd → O₂ b ∨ W₂ b := fun b hb => .inl (.inr (.inr hb))
        have I₇ : Iv Ω c₂ W₂ (upd ρ' x (.val ds[i])) h₇ := Iv.step (c := c₂) (O₁ := O₂) (O₂ := O₂) (V := fun b => b = Dd) I₆ (fun b o hb e => (hs₇.2 b hb).trans e) (fun b hb => ⟨.inr (.inr hb), VoffW b (.inr hb), baseNo b (.inr hb), VoffF b (.inr hb)⟩) (fun _ q => q) I₆.FO fun b hb => by
          by_cases q : b = Dd
          · exact ⟨_, q ▸ ho₇⟩
          · obtain ⟨o, ho⟩ := I₆.there b (.inr hb)
            exact ⟨o, (hs₇.2 b q).trans ho⟩
        have hrr : Reps (fun b => O₂ b ∨ W₂ b) h₇ (out ++ [r]) (vs ++ [y]) := by
          refine Reps.ext (F := fun _ => False) (ext_but hs₇) DO (fun _ _ _ z => z) _ _ (hr₆.append ?_)
          unfold Reps Reps
          exact ⟨y, [], rfl, hrep, rfl⟩
        exact ⟨ds.length + 1 - (i + 1), lt_less hlt, i + 1, h₇, tk₆, _, _, _, out ++ [r], rfl, rfl, hlt, I₇, hρ', stepN (xe₅.trans (eback e₆)) (fun b o hb e => (hs₇.2 b fun q => hb (.inl (.inr q))).trans e),
          S.walk.frame _ _ _ (keepSt e₆ (keepSt e₅ st₄)) (fun b hb o e => (hs₇.2 b (fpD b hb)).trans e), ho₇', hrr, app_len hol, fun j v d hv hd => Rep.ext (F := fun _ => False) (ext_but hs₇) DO (fun _ _ _ z => z) d v ((it₅ j v d hv hd).eext e₆ LO), hQ⟩
    · have hi' : i = ds.length := Nat.le_antisymm hi hge
      subst hi'
      rw [List.drop_length] at hl
      refine S.walk.done _ _ _ st fun h₃ tk₃ k₃ => ?_
      obtain ⟨m, α, hm, _⟩ := I.vars
      have hCw : C ∉ wr := fun q => by have := wrC _ q; rw [hCz] at this; exact Nat.lt_irrefl _ (Nat.lt_of_succ_lt this)
      have hm₃ : h₃.Ns C m := by obtain ⟨o, es, ep, ho, r⟩ := hm; exact ⟨o, es, ep, k₃ C o hCw ho, r⟩
      have hDw : Dd ∉ wr := fun m => Nat.lt_irrefl _ (wrC _ m)
      refine hRR Dd C h₃ tk₃ m vs kk out hl (g₀ _ nD) (g₀ _ nC) hDC hm₃ (k₃ Dd _ hDw hD) ?_ (stepN xe fun b o hb e => k₃ b o (fun q => hb (.inl (.inl q))) e) hol
      refine Reps.ext (W := fun b => b ∈ wr) (F := fun _ => False) (.of_keep fun b o hb e => k₃ b o hb e) (fun b hb => .inl (.inr (.inl hb))) (fun b o e q => ?_) out vs hr
      rcases q with (q | q) | q
      · exact .inl (.inl q)
      · exact .inr (.inl q)
      · exact .inr (.inr (.inl q))
  refine codeAny_compStart_list (loop _ start) ?_
  obtain ⟨i, h', tk, ρ', vs, kk, out, e1, e2, _⟩ := id start
  exact S.walk.self 0 _ _ _ (S.walk.frame 0 hs₂ h₁ S.st (fun b _ o e => up₁ b o e)) (loop _ start)
end
end Mine
end
section
open PySem PySem.W PyProof.Rows PySem.Calls
set_option Elab.async false
set_option linter.all false
set_option autoImplicit false
set_option maxRecDepth 100000
namespace Mine
section
variable {Ω : Wd} {n : Nat} {c : Ctx}
theorem lookup_nodup {α : Type} : ∀ {cs : List (Str × α)} {k : Str} {v : α}, (cs.map (·.1)).Nodup → (k, v) ∈ cs → cs.lookup k = some v
  | (k', v') :: cs, k, v, hnd, hm => by
    rw [List.map_cons, List.nodup_cons] at hnd
    rcases List.mem_cons.mp hm with e | hm
    · cases e; simp
    · have hne : k ≠ k' := fun e => hnd.1 (e ▸ List.mem_map.mpr ⟨(k, v), hm, rfl⟩)
      rw [List.lookup_cons, beq_eq_false_iff_ne.mpr hne]
      exact lookup_nodup hnd.2 hm
structure ScOk (c : Ctx) (scope : Scope) (cl : List (Str × Addr)) (fv : List Nat) (x : Nat) : Prop where
  clos : closL scope.names c.env.cells [] = some cl
  kind : scope.kind = .function
  nd : nodupB (cl.map (·.1)) = true
  nn : nodupB (scope.names.map (·.1)) = true
  fv : FvOk c scope cl fv
  pl : ∀ C O, Place (cctx c scope cl C O) x
  xcl : cl.lookup (nm x) = none
theorem ScOk.names {scope : Scope} {cl : List (Str × Addr)} {fv : List Nat} {x : Nat} (S : ScOk c scope cl fv x) : ∀ y ∈ scope.names, y.2 = .local → scope.names.lookup y.1 = some .local := fun y hy e => by
  obtain ⟨k, v⟩ := y
  cases e
  exact lookup_nodup (nodupB_ok S.nn) hy
theorem comp_rep {W : Addr → Prop} {ρ : Rho} {s : Shared} {Dd C : Addr} {h' h'' : Heap} {vs : List Value} {k : Nat} {out : List D} (I : Iv Ω c W ρ s.heap) (nD : s.heap.get? Dd = none) (nC : s.heap.get? C = none) (hDC : Dd ≠ C)
    (hD : h'.get? Dd = some (lobj vs k)) (hr : Reps (fun b => (c.O b ∨ W b) ∨ b = C) h' out vs) (xe : EExt c s.heap h') (hs : Heap.SameBut C h' h'') : EExt c s.heap h'' ∧ Rep (fun b => c.O b ∨ W b) h'' (.list out) (.ref Dd) := by
  have xe' : EExt c s.heap h'' := by
    refine ⟨⟨fun b o hb e => ?_, fun b o hb hf e => (hs.2 b fun q => by rw [q, nC] at e; cases e).trans (xe.ext.keep b o hb hf e)⟩, fun m hm => ?_⟩
    · obtain ⟨o', ho', s1⟩ := xe.ext.more b o hb e
      exact ⟨o', (hs.2 b fun q => by rw [q, nC] at e; cases e).trans ho', s1⟩
    · obtain ⟨o, ho⟩ := I.there c.L (.inl I.wL)
      obtain ⟨o', es, ep, ho', r⟩ := xe.ns m hm
      exact ⟨o', es, ep, (hs.2 c.L fun q => by rw [q, nC] at ho; cases ho).trans ho', r⟩
  refine ⟨xe', ?_⟩
  unfold Rep
  refine ⟨Dd, vs, rfl, ⟨_, (hs.2 Dd hDC).trans hD, rfl, k, rfl⟩, I.fresh nD, ?_⟩
  exact Reps.ext (F := fun _ => False) (ext_but hs) (fun b hb => .inr hb) (fun _ _ _ q => .inl q) out vs hr
noncomputable def tComp (x : Nat) (fv : List Nat) (ts : TR) (tt : TB) (te : TE) : TE := fun ρ Q E => ts ρ (fun ds => ds.length ≤ 4096 ∧ compT x tt te (restr fv ρ) ds [] (fun out => Q (.list out))) E
theorem ev_comp {elt iter : Expr} {x : Nat} {px : Pos} {ifs : List Expr} {scope : Scope} {cl : List (Str × Addr)} {pos : Pos} {fv : List Nat} {ts : TR} {tt : TB} {te : TE} (S : ScOk c scope cl fv x) (hsrc : SRC Ω n c iter ts)
    (ht : ∀ C O, EVt Ω n (cctx c scope cl C O) ifs tt) (he : ∀ C O, EV Ω n (cctx c scope cl C O) elt te)
    (hs : ∀ y, foldedSetIterable iter c.env y = pure y := by intro _; with_unfolding_all rfl) : EV Ω n c (.ListComp elt [⟨.Name (nm x) px, iter, ifs, 0⟩] scope pos) (tComp x fv ts tt te) := by
  intro A W ρ Q E s a I hq
  rw [eval_ListComp]
  refine wpAny_comprehension_free (use := none) rfl hs (closureFor_of S.clos) S.kind S.names (wpAny_mono (hsrc A W ρ _ E s a I hq) (fun xv s₁ h₁ => wpAny_mono h₁ (fun it s₂ h₂ => ?_) fun _ _ e => e) fun _ _ e => e)
  obtain ⟨ds, Ia, fp, wr, P, St, So, hlen, hl⟩ := h₂
  obtain rfl := So.val
  refine comp_core a I So S.clos S.kind S.nd S.fv S.pl S.xcl ht he hlen hl (RR := fun acc C => compPost (model Ω.prog Ω.w) A _ none _ acc C) ?_
  intro D C h' tk m vs k out hQ nD nC hDC hns hD hr xe _
  refine ⟨m, hns, fun h'' hs'' => ?_⟩
  obtain ⟨xe', hrep⟩ := comp_rep I nD nC hDC hD hr xe hs''
  exact ⟨h'', tk, rfl, xe', I.eext xe', .list out, hrep, hQ⟩
noncomputable def sAssignComp (y : Nat) (t : TE) : TS := sAssign y t
theorem ex_assignComp {elt iter : Expr} {x y : Nat} {px py : Pos} {ifs : List Expr} {scope : Scope} {cl : List (Str × Addr)} {pos spos : Pos} {fv : List Nat} {ts : TR} {tt : TB} {te : TE} (hy : OwnPl c y) (S : ScOk c scope cl fv x) (hsrc : SRC Ω n c iter ts)
    (ht : ∀ C O, EVt Ω n (cctx c scope cl C O) ifs tt) (he : ∀ C O, EV Ω n (cctx c scope cl C O) elt te)
    (hsw : swapsWith (.ListComp elt [⟨.Name (nm x) px, iter, ifs, 0⟩] scope pos) (some (.Name (nm y) py)) spos.line c.env = pure true := by with_unfolding_all rfl)
    (hs : ∀ y, foldedSetIterable iter c.env y = pure y := by intro _; with_unfolding_all rfl) : EX Ω n c (.Assign [.Name (nm y) py] (.ListComp elt [⟨.Name (nm x) px, iter, ifs, 0⟩] scope pos) spos) (sAssignComp y (tComp x fv ts tt te)) := by
  intro A W ρ Q E s a I hq
  rw [exec_Assign_Name_used _ _ _ _ hsw]
  refine wpAny_bind (wpAny_standAt (wpAny_bind ?_))
  show wpAny _ A (do let _ ← comprehension (.ListComp elt [⟨.Name (nm x) px, iter, ifs, 0⟩] scope pos) scope c.env _ (newList []) false (eval iter c.env) (some (assign (.Name (nm y) py) c.env))) _ _ s
  refine wpAny_bind (wpAny_mono (wpAny_comprehension_free (use := some (assign (.Name (nm y) py) c.env)) (Q := fun _ s' => SPost Ω c W s Q .next s') rfl hs (closureFor_of S.clos) S.kind S.names
    (wpAny_mono (hsrc A W ρ _ E s a I hq) (fun xv s₁ h₁ => wpAny_mono h₁ (fun it s₂ h₂ => ?_) fun _ _ e => e) fun _ _ e => e)) (fun _ s' hq => wpAny_pure (wpAny_pure hq)) fun _ _ e => e)
  obtain ⟨ds, Ia, fp, wr, P, St, So, hlen, hl⟩ := h₂
  obtain rfl := So.val
  refine comp_core a I So S.clos S.kind S.nd S.fv S.pl S.xcl ht he hlen hl (RR := fun acc C => compPost (model Ω.prog Ω.w) A _ (some (assign (.Name (nm y) py) c.env)) _ acc C) ?_
  intro D C h' tk m vs k out hQ nD nC hDC hns hD hr xe _
  have CnotW : ¬ W C := fun w => by obtain ⟨o, ho⟩ := I.there C (.inl w); rw [nC] at ho; cases ho
  have CnotF : ¬ c.F C := fun f => by obtain ⟨o, ho⟩ := I.there C (.inr (I.FO C f)); rw [nC] at ho; cases ho
  have CnoB : Ω.base.get? C = none := by
    cases q : Ω.base.get? C with
    | none => rfl
    | some o => have := I.keep C o q; rw [nC] at this; cases this
  -- its place is no data: the invariant of the surroundings where it is forbidden
  have I₀w : Iv Ω (c.withO fun b => c.O b ∨ b = C) W ρ h' := I.widen xe (V := fun b => b = C) fun b hb => by
    subst hb
    obtain ⟨o, _, _, ho, _⟩ := hns
    exact ⟨nC, o, ho⟩
  have hrepw : Rep (fun b => (c.O b ∨ b = C) ∨ W b) h' (.list out) (.ref D) := by
    unfold Rep
    refine ⟨D, vs, rfl, ⟨_, hD, rfl, k, rfl⟩, fun q => ?_, Reps.ext (W := fun _ => False) (F := fun _ => False) (.refl _ _ _) (fun _ q => q.elim) (fun b _ _ q => ?_) out vs hr⟩
    · rcases q with (q | q) | q
      · exact I.fresh nD (.inl q)
      · exact hDC q
      · exact I.fresh nD (.inr q)
    · rcases q with (q | q) | q
      · exact .inl (.inl q)
      · exact .inr q
      · exact .inl (.inr q)
  show wpAny _ A (assign (.Name (nm y) py) c.env (.ref D)) _ _ _
  refine assign_Name (store' (c := c.withO fun b => c.O b ∨ b = C) (s := { s with heap := h', toks := tk }) I₀w ⟨hy.1, .inl hy.2⟩ hrepw fun w h₂ tk₂ hw _ hs₂ I₂ => ?_)
  have hCw : C ≠ w := fun e => CnotW (e ▸ hw)
  refine ⟨m, hns.sameBut hs₂ hCw, fun h₃ hs₃ => ?_⟩
  have hs₃' : Heap.SameBut C h₂ h₃ := hs₃
  have x₁ : Ext W c.F s.heap h₂ := (ext_e I xe).trans (ext_w hw hs₂)
  have x₂ : Ext W c.F s.heap h₃ := ⟨fun b o hb e => let ⟨o', e', s1⟩ := x₁.more b o hb e; ⟨o', (hs₃'.2 b fun q => by rw [q, nC] at e; cases e).trans e', s1⟩,
    fun b o hb hf e => (hs₃'.2 b fun q => by rw [q, nC] at e; cases e).trans (x₁.keep b o hb hf e)⟩
  have I₃ : Iv Ω c W (upd ρ y (.val (.list out))) h₃ := Iv.step (c := c) (V := fun b => b = C) (O₂ := c.O) I₂ (fun b o hb e => (hs₃'.2 b hb).trans e) (fun b hb => by subst hb; exact ⟨.inr rfl, CnotW, CnoB, CnotF⟩) (fun b q => .inl q) I.FO fun b hb => by
    obtain ⟨o, ho⟩ := I₂.there b (.inr (.inl hb))
    exact ⟨o, (hs₃'.2 b fun q => by
      obtain ⟨o', ho'⟩ := I.there b (.inr hb)
      rw [q, nC] at ho'; cases ho').trans ho⟩
  exact ⟨W, _, h₃, tk₂, .next, rfl, x₂, .refl _ _, I₃, rfl, hQ⟩
end
end Mine
end
section
open PySem PySem.W PyProof.Rows PySem.Calls
set_option Elab.async false
set_option linter.all false
set_option autoImplicit false
set_option maxRecDepth 100000
namespace Mine
section
variable {prog : Program} {w : World} {A : Around} {R : Result → Shared → Prop} {s : Shared}
theorem codeAny_comp2_inner {elt target iter : Expr} {g₀ : Comprehension} {scope : Scope} {pos : Pos} {it acc : Value} {env : Env} (I : Nat → Shared → Prop)
    (turn : ∀ n s, I n s → wpAny (model prog w) A (pyNext it) (fun r s₁ => match r with
      | none => R (.ok .next) s₁
      | some v => wpAny (model prog w) A (assign target env v) (fun _ s₂ => wpAny (model prog w) A (eval elt env) (fun x s₃ =>
          wpAny (model prog w) A (call (.builtin "list.append") [acc, x]) (fun _ s₄ => ∃ m, m < n ∧ I m s₄) (notedBy (model prog w) A env fun e s' => R (.error e) s') s₃)
          (notedBy (model prog w) A env fun e s' => R (.error e) s') s₂) (notedBy (model prog w) A env fun e s' => R (.error e) s') s₁) (notedBy (model prog w) A env fun e s' => R (.error e) s') s)
    (n : Nat) (h : I n s) (ht : ∀ v, letOwnedTupleGo target it v = pure () := by intro _; rfl) :
    codeAny (model prog w) A (.compLoop (.ListComp elt [g₀, ⟨target, iter, [], 0⟩] scope pos) 1 it acc env) R s := by
  refine codeAny_loop rfl I (fun n s hI => ?_) n h
  show wpAny _ A ((compTurn (.ListComp elt [g₀, ⟨target, iter, [], 0⟩] scope pos) 1 it acc env).onRaise (fun x => do noteFrame x env; theTreesLotGoes x)) _ _ s
  refine wpAny_noted ?_
  have e : compTurn (.ListComp elt [g₀, ⟨target, iter, [], 0⟩] scope pos) 1 it acc env = (standAt iter.pos >>= fun _ => pyNext it >>= fun r => match r with
      | none => pure (.done .next)
      | some v => letOwnedTupleGo target it v >>= fun _ => assign target env v >>= fun _ =>
        (eval elt env >>= fun x => call (.builtin "list.append") [acc, x] >>= fun _ => pure ()) >>= fun _ =>
          again (.compLoop (.ListComp elt [g₀, ⟨target, iter, [], 0⟩] scope pos) 1 it acc env)) := by rfl
  rw [e]
  refine wpAny_bind (wpAny_standAt (wpAny_bind (wpAny_mono (turn n s hI) (fun r s₁ h₁ => ?_) fun _ _ h' => h')))
  cases r with
  | none => exact wpAny_pure h₁
  | some v =>
    refine wpAny_bind (wpAny_of_eq (ht v) ?_)
    exact wpAny_bind (wpAny_mono h₁ (fun _ s₂ h₂ => wpAny_bind (wpAny_bind (wpAny_mono h₂ (fun x s₃ h₃ => wpAny_bind (wpAny_mono h₃
      (fun _ s₄ h₄ => wpAny_pure (wpAny_pure ⟨rfl, h₄⟩)) fun _ _ h' => h')) fun _ _ h' => h'))) fun _ _ h' => h')
theorem codeAny_comp2_start {elt target iter : Expr} {g₀ : Comprehension} {scope : Scope} {pos : Pos} {it acc : Value} {env : Env}
    (h0 : codeAny (model prog w) A (.compLoop (.ListComp elt [g₀, ⟨target, iter, [], 0⟩] scope pos) 1 it acc env) R s)
    (h : wpAny (model prog w) A (pyIter it) (fun it' s' => codeAny (model prog w) A (.compLoop (.ListComp elt [g₀, ⟨target, iter, [], 0⟩] scope pos) 1 it' acc env) R s')
      (notedBy (model prog w) A env fun x s' => R (.error x) s') s) :
    codeAny (model prog w) A (.compStart (.ListComp elt [g₀, ⟨target, iter, [], 0⟩] scope pos) 1 it acc env) R s := by
  refine codeAny_of_tree ?_
  show wpAny _ _ ((compStart (.ListComp elt [g₀, ⟨target, iter, [], 0⟩] scope pos) 1 it acc env).onRaise (fun x => do noteFrame x env; standAt theWindowsPlace)) _ _ s
  refine wpAny_notedAt ?_
  unfold compStart
  show wpAny _ _ (ask >>= _) _ _ s
  refine wpAny_bind (wpAny_askSetting (wpAny_ite ?_))
  split
  · first
      | exact wpAny_bind (wpAny_pure (wpAny_pure (And.intro rfl h0)))
      | exact wpAny_pure (And.intro rfl h0)
  · first
      | exact wpAny_bind (wpAny_rule (wpAny_bind (wpAny_standAt (wpAny_bind (wpAny_mono h (fun it' s' h' => wpAny_pure (And.intro rfl h')) fun _ _ x => x)))))
      | (refine wpAny_bind (wpAny_rule ?_); show wpAny _ _ (standAt iter.pos >>= _) _ _ s; exact wpAny_bind (wpAny_standAt (wpAny_bind (wpAny_mono h (fun it' s' h' => wpAny_pure (And.intro rfl h')) fun _ _ x => x))))
theorem codeAny_comp2_outer {elt target iter target₂ iter₂ : Expr} {scope : Scope} {pos : Pos} {it acc : Value} {env : Env} (I : Nat → Shared → Prop)
    (turn : ∀ n s, I n s → wpAny (model prog w) A (pyNext it) (fun r s₁ => match r with
      | none => R (.ok .next) s₁
      | some v => wpAny (model prog w) A (assign target env v) (fun _ s₂ => wpAny (model prog w) A (eval iter₂ env) (fun x s₃ => wpAny (model prog w) A (pyIter x) (fun it₂ s₄ =>
          codeAny (model prog w) A (.compStart (.ListComp elt [⟨target, iter, [], 0⟩, ⟨target₂, iter₂, [], 0⟩] scope pos) 1 it₂ acc env) (fun r s₅ => match r with
            | .ok _ => ∃ m, m < n ∧ I m s₅
            | .error e => cameBackBy (model prog w) A env (notedBy (model prog w) A env fun e s' => R (.error e) s') e s₅) s₄)
          (notedBy (model prog w) A env fun e s' => R (.error e) s') s₃) (notedBy (model prog w) A env fun e s' => R (.error e) s') s₂) (notedBy (model prog w) A env fun e s' => R (.error e) s') s₁) (notedBy (model prog w) A env fun e s' => R (.error e) s') s)
    (n : Nat) (h : I n s) (hs : ∀ x, foldedSetIterable iter₂ env x = pure x) (ht : ∀ v, letOwnedTupleGo target it v = pure () := by intro _; rfl) :
    codeAny (model prog w) A (.compLoop (.ListComp elt [⟨target, iter, [], 0⟩, ⟨target₂, iter₂, [], 0⟩] scope pos) 0 it acc env) R s := by
  refine codeAny_loop rfl I (fun n s hI => ?_) n h
  show wpAny _ A ((compTurn (.ListComp elt [⟨target, iter, [], 0⟩, ⟨target₂, iter₂, [], 0⟩] scope pos) 0 it acc env).onRaise (fun x => do noteFrame x env; theTreesLotGoes x)) _ _ s
  refine wpAny_noted ?_
  have e : compTurn (.ListComp elt [⟨target, iter, [], 0⟩, ⟨target₂, iter₂, [], 0⟩] scope pos) 0 it acc env = (standAt iter.pos >>= fun _ => pyNext it >>= fun r => match r with
      | none => pure (.done .next)
      | some v => letOwnedTupleGo target it v >>= fun _ => assign target env v >>= fun _ =>
        (eval iter₂ env >>= fun x => standAt iter₂.pos >>= fun _ => foldedSetIterable iter₂ env x >>= fun x => holding [x] (pyIter x) >>= fun it₂ =>
          runOwn (.compStart (.ListComp elt [⟨target, iter, [], 0⟩, ⟨target₂, iter₂, [], 0⟩] scope pos) 1 it₂ acc env) env >>= fun _ =>
          again (.compLoop (.ListComp elt [⟨target, iter, [], 0⟩, ⟨target₂, iter₂, [], 0⟩] scope pos) 0 it acc env))) := by rfl
  rw [e]
  refine wpAny_bind (wpAny_standAt (wpAny_bind (wpAny_mono (turn n s hI) (fun r s₁ h₁ => ?_) fun _ _ h' => h')))
  cases r with
  | none => exact wpAny_pure h₁
  | some v =>
    refine wpAny_bind (wpAny_of_eq (ht v) ?_)
    refine wpAny_bind (wpAny_mono h₁ (fun _ s₂ h₂ => ?_) fun _ _ h' => h')
    refine wpAny_bind (wpAny_mono h₂ (fun x s₃ h₃ => ?_) fun _ _ h' => h')
    refine wpAny_bind (wpAny_standAt (wpAny_bind (wpAny_of_eq (hs x) (wpAny_bind (wpAny_holding (wpAny_mono h₃ (fun it₂ s₄ h₄ => ?_) fun _ _ h' => h'))))))
    exact wpAny_bind (wpAny_runOwn (codeAny_mono h₄ fun r s₅ hr => by
      cases r with
      | ok f => exact wpAny_pure ⟨rfl, hr⟩
      | error e => exact hr))
end
end Mine
end
section
open PySem PySem.W PyProof.Rows PySem.Calls
set_option Elab.async false
set_option linter.all false
set_option autoImplicit false
set_option maxRecDepth 100000
namespace Mine
section
variable {Ω : Wd} {n : Nat} {c : Ctx}
structure XExt (c : Ctx) (Dd : Addr) (h h' : Heap) : Prop where
  ext : Ext (fun b => b = c.L ∨ b = c.env.locals ∨ b = Dd) c.F h h'
  ns : ∀ m, h.Ns c.L m → h'.Ns c.L m
theorem comp_inner {A : Around} {elt iter₂ : Expr} {g₀ : Comprehension} {y : Nat} {py : Pos} {scope : Scope} {pos : Pos} {W : Addr → Prop} {ρ : Rho} {s₀ s₂ : Shared} {ds : List D} {Ia : Addr} {fp wr : List Addr} {P : Nat → Value → Prop} {St : Nat → Heap → Prop} {te : TE} {Qout : List D → Prop} {R : Result → Shared → Prop} {Dd : Addr} {vs : List Value} {kk : Nat} {out : List D}
    (a : AOk c n A) (I₀ : Iv Ω c W ρ s₀.heap) (S : SrcOk Ω A c W ρ s₀ ds (.ref Ia) s₂ Ia fp wr P St) (hD₀ : s₀.heap.get? Dd = some (lobj vs kk)) (hDO : c.O Dd) (hDW : ¬ W Dd) (hDB : Ω.base.get? Dd = none) (hDF : ¬ c.F Dd) (hr₀ : Reps (fun b => c.O b ∨ W b) s₀.heap out vs)
    (hp : OwnPl c y) (hLL : c.env.locals ≠ c.L) (hρ : ρ y = none) (he : ∀ O', EV Ω n (c.withO O') elt te) (hlen : out.length + ds.length ≤ 4096) (hq : compT y bYes te ρ ds out Qout)
    (hR : ∀ h' tk vs' kk' out', Qout out' → Iv Ω c W ρ h' → XExt c Dd s₀.heap h' → h'.get? Dd = some (lobj vs' kk') → Reps (fun b => c.O b ∨ W b) h' out' vs' → out'.length ≤ out.length + ds.length → R (.ok .next) { s₀ with heap := h', toks := tk }) :
    codeAny (model Ω.prog Ω.w) A (.compStart (.ListComp elt [g₀, ⟨.Name (nm y) py, iter₂, [], 0⟩] scope pos) 1 (.ref Ia) (.ref Dd) c.env) R s₂ := by
  obtain ⟨hs₂, tk₂, rfl, x₂, I₂⟩ := S.bk
  let O₃ : Addr → Prop := fun b => c.O b ∨ b ∈ wr
  have wrOld : ∀ b ∈ wr, ∃ o, hs₂.get? b = some o := fun b hb => S.there 0 hs₂ b S.st (S.walk.sub b hb)
  have I₁ : Iv Ω (c.withO O₃) W ρ hs₂ := I₀.widen x₂ (V := fun b => b ∈ wr) fun b hb => ⟨S.new b hb, wrOld b hb⟩
  have a₂ : ∀ O', AOk (c.withO O') n A := fun O' => ⟨a.hd, a.frames, a.depth, a.units⟩
  have baseNo : ∀ b ∈ wr, Ω.base.get? b = none := fun b hb => by
    cases q : Ω.base.get? b with
    | none => rfl
    | some o => have := I₀.keep b o q; rw [S.new b hb] at this; cases this
  have fpW : ∀ b ∈ fp, ¬ W b := fun b hb w => S.off b hb (.inr w)
  have fpF : ∀ b ∈ fp, ¬ c.F b := fun b hb f => S.off b hb (.inl (I₀.FO b f))
  have fpD : ∀ b ∈ fp, b ≠ Dd := fun b hb e => S.off b hb (.inl (e ▸ hDO))
  have hDw : Dd ∉ wr := fun m => fpD _ (S.walk.sub _ m) rfl
  have DL : Dd ≠ c.L := fun e => hDW (e ▸ I₀.wL)
  have De : Dd ≠ c.env.locals := fun e => hDW (e ▸ I₀.wenv)
  have wrO : ∀ b, b ∈ wr → O₃ b ∨ W b := fun b hb => .inl (.inr hb)
  have LO : O₃ c.L ∨ W c.L := .inr I₀.wL
  have x0 : XExt c Dd s₀.heap hs₂ := ⟨x₂.ext.mono fun b _ _ hb => .inl hb, x₂.ns⟩
  -- steps of the heap, seen from the start
  have stepW : ∀ {h h' : Heap}, XExt c Dd s₀.heap h → (∀ b o, b ∉ wr → b ≠ c.env.locals → b ≠ Dd → h.get? b = some o → h'.get? b = some o) → XExt c Dd s₀.heap h' := fun {h h'} x k => by
    have off : ∀ b o, s₀.heap.get? b = some o → b ∉ wr := fun b o e m => by rw [S.new b m] at e; cases e
    refine ⟨⟨fun b o hb e => ?_, fun b o hb hf e => k b o (off b o e) (fun q => hb (.inr (.inl q))) (fun q => hb (.inr (.inr q))) (x.ext.keep b o hb hf e)⟩, fun m hm => ?_⟩
    · obtain ⟨o', ho', s1⟩ := x.ext.more b o hb e
      exact ⟨o', k b o' (off b o e) (fun q => hb (.inr (.inl q))) (fun q => hb (.inr (.inr q))) ho', s1⟩
    · obtain ⟨o, ho⟩ := I₀.there c.L (.inl I₀.wL)
      obtain ⟨o', es, ep, ho', r⟩ := x.ns m hm
      exact ⟨o', es, ep, k _ _ (off c.L o ho) (Ne.symm hLL) (Ne.symm DL) ho', r⟩
  have stepE : ∀ {h h' : Heap}, XExt c Dd s₀.heap h → EExt c h h' → XExt c Dd s₀.heap h' := fun x e => ⟨x.ext.trans (e.ext.mono fun b _ _ hb => .inl hb), fun m hm => e.ns m (x.ns m hm)⟩
  let J : Nat → Shared → Prop := fun k s' => ∃ i h' tk ρ' vs' kk' out', s' = { s₀ with heap := h', toks := tk } ∧ k = ds.length + 1 - i ∧ i ≤ ds.length ∧ Iv Ω (c.withO O₃) W ρ' h' ∧ (∀ d, upd ρ' y (.val d) = upd ρ y (.val d)) ∧ XExt c Dd s₀.heap h' ∧ St i h' ∧
    h'.get? Dd = some (lobj vs' kk') ∧ Reps (fun b => O₃ b ∨ W b) h' out' vs' ∧ out'.length ≤ out.length + i ∧ (∀ j v d, P j v → ds[j]? = some d → Rep (fun b => O₃ b ∨ W b) h' d v) ∧ compT y bYes te ρ (ds.drop i) out' Qout
  have start : J (ds.length + 1) { s₀ with heap := hs₂, toks := tk₂ } := by
    refine ⟨0, hs₂, tk₂, ρ, vs, kk, out, rfl, rfl, Nat.zero_le _, I₁, fun _ => rfl, x0, S.st, x₂.ext.keep Dd _ DL hDF hD₀, ?_, Nat.le_refl _, S.items, by rw [List.drop_zero]; exact hq⟩
    refine Reps.ext x₂.ext (fun b hb => .inr (hb ▸ I₀.wL)) (fun b o e q => ?_) out vs hr₀
    rcases q with (q | q) | q
    · exact .inl q
    · rw [S.new b q] at e; cases e
    · exact .inr q
  have loop : ∀ s₃ : Shared, J (ds.length + 1) s₃ → codeAny (model Ω.prog Ω.w) A (.compLoop (.ListComp elt [g₀, ⟨.Name (nm y) py, iter₂, [], 0⟩] scope pos) 1 (.ref Ia) (.ref Dd) c.env) R s₃ := by
    intro s₃ hJ
    refine codeAny_comp2_inner J ?_ (ds.length + 1) hJ
    rintro k s' ⟨i, h', tk, ρ', vs', kk', out', rfl, rfl, hi, I, hρ', xe, st, hD, hr, hol, it, hl⟩
    rcases Nat.lt_or_ge i ds.length with hlt | hge
    · have hd : ds[i]? = some ds[i] := List.getElem?_eq_getElem hlt
      rw [List.drop_eq_getElem_cons hlt] at hl
      refine S.walk.item i _ _ _ hlt st fun v h₃ tk₃ hPv st₃ k₃ => ?_
      have I₃ : Iv Ω (c.withO O₃) W ρ' h₃ := Iv.step (c := c) (O₁ := O₃) (O₂ := O₃) (V := fun b => b ∈ wr) I (fun b o hb e => k₃ b o hb e) (fun b hb => ⟨.inr hb, fpW b (S.walk.sub b hb), baseNo b hb, fpF b (S.walk.sub b hb)⟩) (fun _ q => q) (fun b f => .inl (I₀.FO b f)) fun b hb => by
        by_cases q : b ∈ wr
        · exact S.there _ h₃ b st₃ (S.walk.sub b q)
        · obtain ⟨o, ho⟩ := I.there b (.inr hb)
          exact ⟨o, k₃ b o q ho⟩
      have xw : Ext (fun b => b ∈ wr) (fun _ => False) h' h₃ := .of_keep fun b o hb e => k₃ b o hb e
      have rd : Rep (fun b => O₃ b ∨ W b) h₃ ds[i] v := Rep.ext xw wrO (fun _ _ _ z => z) _ v (it i v _ hPv hd)
      obtain ⟨m, α, hm, _⟩ := I₃.vars
      have hm' : h₃.Ns c.env.locals m := hm
      refine assign_Name (wpAny_storeName_local (s := { s₀ with heap := h₃, toks := tk₃ }) hp.2 hm' (fun h₄ hn₄ hs₄ => ?_) (by rw [I₀.kind]; rfl))
      have hs₄' : Heap.SameBut c.env.locals h₃ h₄ := hs₄
      have I₄ : Iv Ω (c.withO O₃) W (upd ρ' y (.val ds[i])) h₄ := I₃.setLocal hp.1 hp.2 hm hn₄ hs₄' rd
      have wO : ∀ b, b = c.env.locals → O₃ b ∨ W b := fun b hb => .inr (hb ▸ I₀.wenv)
      have xe₄ : XExt c Dd s₀.heap h₄ := stepW (stepW xe fun b o hb _ _ e => k₃ b o hb e) fun b o _ hb _ e => (hs₄'.2 b hb).trans e
      have st₄ : St (i + 1) h₄ := S.walk.frame _ h₃ h₄ st₃ fun b hb o e => (hs₄'.2 b fun q => fpW b hb (q ▸ I₀.wenv)).trans e
      have hD₄ : h₄.get? Dd = some (lobj vs' kk') := (hs₄'.2 Dd De).trans (k₃ Dd _ hDw hD)
      have up₄ : ∀ d v, Rep (fun b => O₃ b ∨ W b) h' d v → Rep (fun b => O₃ b ∨ W b) h₄ d v := fun d v r =>
        Rep.ext (F := fun _ => False) (ext_but hs₄') wO (fun _ _ _ z => z) d v (Rep.ext xw wrO (fun _ _ _ z => z) d v r)
      have hr₄ : Reps (fun b => O₃ b ∨ W b) h₄ out' vs' := Reps.ext (F := fun _ => False) (ext_but hs₄') wO (fun _ _ _ z => z) out' vs' (Reps.ext xw wrO (fun _ _ _ z => z) out' vs' hr)
      have hl' : te (upd ρ' y (.val ds[i])) (fun r => compT y bYes te ρ (ds.drop (i + 1)) (out' ++ [r]) Qout) (fun _ => False) := by
        rw [hρ']; exact hl
      refine wpAny_mono (he O₃ A W _ _ (fun _ => False) { s₀ with heap := h₄, toks := tk₃ + 1 } (a₂ _) I₄ hl') (fun z s₆ p => ?_) fun v s₆ p => by obtain ⟨_, _, _, _, _, _, hE, _⟩ := p; exact hE.elim
      obtain ⟨h₆, tk₆, rfl, e₆, I₆, r, hrep, hQ⟩ := p
      have e₆' : EExt c h₄ h₆ := ⟨e₆.ext, e₆.ns⟩
      have hD₆ : h₆.get? Dd = some (lobj vs' kk') := e₆'.ext.keep Dd _ DL hDF hD₄
      have hr₆ : Reps (fun b => O₃ b ∨ W b) h₆ out' vs' := hr₄.eext e₆' LO
      have hlen₆ : out'.length ≤ 4096 := Nat.le_trans hol (Nat.le_trans (Nat.add_le_add_left (Nat.le_of_lt hlt) _) hlen)
      refine append_at hD₆ (fun h₇ hs₇ ho₇ => ?_) (by rw [sizeLine_eq, List.size_toArray, hr₆.length]; exact Nat.le_trans hlen₆ (by decide))
      have hs₇' : Heap.SameBut Dd h₆ h₇ := hs₇
      have ho₇' : h₇.get? Dd = some (lobj (vs' ++ [z]) (kk' + 1)) := by rw [ho₇]; simp
      have DO : ∀ b, b = Dd → O₃ b ∨ W b := fun b hb => .inl (.inl (hb ▸ hDO))
      have I₇ : Iv Ω (c.withO O₃) W (upd ρ' y (.val ds[i])) h₇ := Iv.step (c := c) (O₁ := O₃) (O₂ := O₃) (V := fun b => b = Dd) I₆ (fun b o hb e => (hs₇'.2 b hb).trans e) (fun b hb => by subst hb; exact ⟨.inl hDO, hDW, hDB, hDF⟩) (fun _ q => q) (fun b f => .inl (I₀.FO b f)) fun b hb => by
        by_cases q : b = Dd
        · exact ⟨_, q ▸ ho₇⟩
        · obtain ⟨o, ho⟩ := I₆.there b (.inr hb)
          exact ⟨o, (hs₇'.2 b q).trans ho⟩
      have hrr : Reps (fun b => O₃ b ∨ W b) h₇ (out' ++ [r]) (vs' ++ [z]) := by
        refine Reps.ext (F := fun _ => False) (ext_but hs₇') DO (fun _ _ _ z => z) _ _ (hr₆.append ?_)
        unfold Reps Reps
        exact ⟨z, [], rfl, hrep, rfl⟩
      exact ⟨ds.length + 1 - (i + 1), lt_less hlt, i + 1, h₇, tk₆, _, _, _, out' ++ [r], rfl, rfl, hlt, I₇, fun d => by rw [upd_upd, hρ'], stepW (stepE xe₄ e₆') (fun b o _ _ hb e => (hs₇'.2 b hb).trans e),
        S.walk.frame _ _ _ (S.walk.frame _ _ _ st₄ fun b hb o g => e₆'.ext.keep b o (fun q => fpW b hb (q ▸ I₀.wL)) (fpF b hb) g) (fun b hb o e => (hs₇'.2 b (fpD b hb)).trans e), ho₇', hrr, app_len hol,
        fun j v d hv hd => Rep.ext (F := fun _ => False) (ext_but hs₇') DO (fun _ _ _ z => z) d v (Rep.eext (up₄ d v (it j v d hv hd)) e₆' LO), hQ⟩
    · have hi' : i = ds.length := Nat.le_antisymm hi hge
      subst hi'
      rw [List.drop_length] at hl
      refine S.walk.done _ _ _ st fun h₃ tk₃ k₃ => ?_
      have hl'' : Qout out' := hl
      have I₃ : Iv Ω c W ρ' h₃ := Iv.step (c := c) (O₁ := O₃) (O₂ := c.O) (V := fun b => b ∈ wr) I (fun b o hb e => k₃ b o hb e) (fun b hb => ⟨.inr hb, fpW b (S.walk.sub b hb), baseNo b hb, fpF b (S.walk.sub b hb)⟩) (fun _ q => .inl q) I₀.FO fun b hb => by
        obtain ⟨o, ho⟩ := I.there b (.inr (.inl hb))
        exact ⟨o, k₃ b o (fun m => S.off b (S.walk.sub b m) (.inl hb)) ho⟩
      refine hR h₃ tk₃ vs' kk' out' hl'' (I₃.forget fun j sl hj => ?_) (stepW xe fun b o hb _ _ e => k₃ b o hb e) (k₃ Dd _ hDw hD) ?_ hol
      · have hne : j ≠ y := fun e => by rw [e, hρ] at hj; cases hj
        have := congrFun (hρ' (.int 0)) j
        unfold upd at this
        rw [if_neg hne, if_neg hne] at this
        rw [this]; exact hj
      · exact Reps.ext (W := fun b => b ∈ wr) (F := fun _ => False) (.of_keep fun b o hb e => k₃ b o hb e) (fun b hb => .inl (.inr hb)) (fun b o e q => q.imp .inl id) out' vs' hr
  refine codeAny_comp2_start (loop _ start) ?_
  exact S.walk.self 0 _ _ _ S.st (loop _ start)
end
end Mine
end
section
open PySem PySem.W PyProof.Rows PySem.Calls
set_option Elab.async false
set_option linter.all false
set_option autoImplicit false
set_option maxRecDepth 100000
namespace Mine
section
variable {Ω : Wd} {n : Nat} {c : Ctx}
noncomputable def comp2T (x y : Nat) (ts₂ : TR) (te : TE) (ρ : Rho) : List D → List D → (List D → Prop) → Prop
  | [], acc, Q => Q acc
  | d :: ds, acc, Q => ts₂ (upd ρ x (.val d)) (fun es => acc.length + es.length ≤ 4096 ∧ compT y bYes te (upd ρ x (.val d)) es acc (fun acc' => comp2T x y ts₂ te ρ ds acc' Q)) (fun _ => False)
theorem comp2_core {elt iter iter₂ : Expr} {x y : Nat} {px py : Pos} {scope : Scope} {cl : List (Str × Addr)} {pos : Pos} {fv : List Nat} {A : Around} {W : Addr → Prop} {ρ : Rho} {s₀ s₂ : Shared} {ds : List D} {Ia : Addr} {fp wr : List Addr} {P : Nat → Value → Prop} {St : Nat → Heap → Prop}
    {ts₂ : TR} {te : TE} {Qout : List D → Prop} {RR : Value → Addr → Result → Shared → Prop} {E : Value → Shared → Prop} (a : AOk c n A) (I₀ : Iv Ω c W ρ s₀.heap) (S : SrcOk Ω A c W ρ s₀ ds (.ref Ia) s₂ Ia fp wr P St)
    (hc : closL scope.names c.env.cells [] = some cl) (hkind : scope.kind = .function) (hnd : nodupB (cl.map (·.1)) = true) (hfv : FvOk c scope cl fv)
    (hp : ∀ C O, Place (cctx c scope cl C O) x) (hxcl : cl.lookup (nm x) = none)
    (hpy : ∀ C O, OwnPl (cctx c scope cl C O) y) (hxf : x ∉ fv) (hyf : y ∉ fv) (hxy : y ≠ x)
    (ht : ∀ C O, SRC Ω n (cctx c scope cl C O) iter₂ ts₂) (he : ∀ C O, EV Ω n (cctx c scope cl C O) elt te) (hfs : ∀ C x, foldedSetIterable iter₂ (compEnv scope cl C c.env) x = pure x)
    (hq : comp2T x y ts₂ te (restr fv ρ) ds [] Qout)
    (hRR : ∀ D C h' tk m vs k out, Qout out → s₀.heap.get? D = none → s₀.heap.get? C = none → D ≠ C → h'.Ns C m → h'.get? D = some (lobj vs k) → Reps (fun b => (c.O b ∨ W b) ∨ b = C) h' out vs → EExt c s₀.heap h' →
      RR (.ref D) C (.ok .next) { s₀ with heap := h', toks := tk }) :
    wpAny (model Ω.prog Ω.w) A (newList []) (fun acc s₃ => wpAny (model Ω.prog Ω.w) A (newFunctionEnv scope c.env.globals cl [] c.env.qual none .none (some c.env)) (fun cenv s₄ =>
      codeAny (model Ω.prog Ω.w) A (.compStart (.ListComp elt [⟨.Name (nm x) px, iter, [], 0⟩, ⟨.Name (nm y) py, iter₂, [], 0⟩] scope pos) 0 (.ref Ia) acc { cenv with scope := relabel scope c.env }) (RR acc cenv.locals) s₄) E s₃) E s₂ := by
  obtain ⟨hs₂, tk₂, rfl, x₂, I₂⟩ := S.bk
  refine wpAny_newObj_type (newEnv_comp ?_)
  let Dd : Addr := hs₂.objs.size
  let H2 : Heap := hs₂.push (lobj [] 0)
  let C : Addr := H2.objs.size
  have hCz : C = Dd + 1 := Heap.size_push ..
  let H3 : Heap := H2.push { cls := .type "dict", data := .dict #[] }
  have hz3 : H3.objs.size = C + 1 := Heap.size_push ..
  let h₁ : Heap := pushCells H3 scope.names
  have up₁ : ∀ b o, hs₂.get? b = some o → h₁.get? b = some o := fun b o e => pushCells_keeps _ _ b o (Heap.get?_push_of_some _ (Heap.get?_push_of_some _ e))
  have hDg : h₁.get? Dd = some (lobj [] 0) := pushCells_keeps _ _ _ _ (Heap.get?_push_of_some _ (Heap.get?_push_size _ rfl))
  have hCns : h₁.Ns C fun _ => none := (Heap.Ns.new H2 (.type "dict")).keeps (pushCells_keeps _ _)
  have nD : hs₂.get? Dd = none := get_size _
  have nC : hs₂.get? C = none := Heap.get?_none_of_le (by rw [hCz]; exact Nat.le_succ _)
  have g₀ : ∀ b, hs₂.get? b = none → s₀.heap.get? b = none := fun b e => S.bk.gone e
  have hDC : Dd ≠ C := by rw [hCz]; exact Nat.ne_of_lt (Nat.lt_succ_self _)
  have inCl : ∀ y ∈ cl, c.env.cells.lookup y.1 = some y.2 := fun y hy => (closL_mem hc y hy).resolve_left fun q => by cases q
  have clLt : ∀ y ∈ cl, y.2 < hs₂.objs.size := fun y hy => by
    obtain ⟨v, o, ho, _⟩ := I₂.cellIs y (mem_of_lookup (inCl y hy))
    exact Heap.lt_size ho
  have cg := cellsFrom_gen scope.names H3 cl (fun y hy => by rw [hz3, hCz]; exact Nat.lt_succ_of_lt (Nat.lt_succ_of_lt (clLt y hy))) (pair_addr (nodupB_ok hnd) inCl I₂.apart)
  rw [hz3] at cg
  have cellNew : ∀ y ∈ cellsFrom (C + 1) scope.names cl, y ∈ cl ∨ (C < y.2 ∧ hs₂.get? y.2 = none ∧ h₁.IsCell y.2 none) := fun y hy => (cg.2 y hy).imp id fun q =>
    ⟨q.1, Heap.get?_none_of_le (Nat.le_trans (by rw [hCz]; exact Nat.le_succ_of_le (Nat.le_succ _)) q.1), q.2⟩
  let V : Addr → Prop := fun b => b ∈ wr ∨ b = Dd
  let O₂ : Addr → Prop := fun b => c.O b ∨ V b
  let W₂ : Addr → Prop := fun b => W b ∨ b = C ∨ ∃ y ∈ cellsFrom (C + 1) scope.names cl, y.2 = b
  let c₂ := cctx c scope cl C O₂
  have x₁ : EExt c s₀.heap h₁ := x₂.trans (.of_keep up₁)
  have wrOld : ∀ b ∈ wr, ∃ o, hs₂.get? b = some o := fun b hb => S.there 0 hs₂ b S.st (S.walk.sub b hb)
  have wrC : ∀ b ∈ wr, b < Dd := fun b hb => by obtain ⟨o, ho⟩ := wrOld b hb; exact Heap.lt_size ho
  have fpLt : ∀ b ∈ fp, b < Dd := fun b hb => by obtain ⟨o, ho⟩ := S.there 0 hs₂ b S.st hb; exact Heap.lt_size ho
  have cellOff : ∀ y ∈ cellsFrom (C + 1) scope.names cl, ¬ V y.2 := fun y hy q => by
    rcases cellNew y hy with h1 | h1
    · have w := I₂.wcell y (mem_of_lookup (inCl y h1))
      rcases q with q | q
      · exact S.off _ (S.walk.sub _ q) (.inr w)
      · have := clLt y h1; rw [q] at this; exact Nat.lt_irrefl _ this
    · rcases q with q | q
      · have := wrC _ q
        have h2 := h1.1
        rw [hCz] at h2
        exact Nat.lt_irrefl _ (Nat.lt_trans this (Nat.lt_of_succ_lt h2))
      · have h2 := h1.1
        rw [q, hCz] at h2
        exact Nat.lt_irrefl _ (Nat.lt_of_succ_lt h2)
  have I₁ : Iv Ω c₂ W₂ (restr fv ρ) h₁ := comp_iv (V := V) I₀ hc hkind hnd hfv x₁ (g₀ C nC) (Nat.le_trans I₂.base_size (by rw [hCz]; exact Nat.le_succ _)) hCns
    ⟨cg.1, fun y hy => (cellNew y hy).imp id fun q => ⟨q.1, g₀ _ q.2.1, q.2.2⟩⟩
    (fun b hb => by
      rcases hb with hb | rfl
      · obtain ⟨o, ho⟩ := wrOld b hb
        exact ⟨S.new b hb, o, up₁ b o ho⟩
      · exact ⟨g₀ _ nD, _, hDg⟩)
    (fun q => by
      rcases q with q | q
      · have := wrC _ q; rw [hCz] at this; exact Nat.lt_irrefl _ (Nat.lt_of_succ_lt this)
      · exact hDC q.symm) cellOff
  have a₂ : AOk c₂ n A := ⟨a.hd, a.frames, a.depth, a.units⟩
  have new₀ : ∀ b, V b ∨ b = C ∨ (∃ y ∈ cellsFrom (C + 1) scope.names cl, y ∉ cl ∧ y.2 = b) → s₀.heap.get? b = none := fun b hb => by
    rcases hb with (hb | rfl) | rfl | ⟨y, hy, hn, rfl⟩
    · exact S.new b hb
    · exact g₀ _ nD
    · exact g₀ _ nC
    · exact g₀ _ ((cellNew y hy).resolve_left hn).2.1
  have baseNo : ∀ b, V b → Ω.base.get? b = none := fun b hb => by
    cases q : Ω.base.get? b with
    | none => rfl
    | some o => have := I₀.keep b o q; rw [new₀ b (.inl hb)] at this; cases this
  have VoffW : ∀ b, V b → ¬ W₂ b := fun b hb w => by
    rcases w with w | rfl | ⟨y, hy, rfl⟩
    · exact I₀.fresh (new₀ b (.inl hb)) (.inr w)
    · rcases hb with hb | hb
      · have := wrC _ hb; rw [hCz] at this; exact Nat.lt_irrefl _ (Nat.lt_of_succ_lt this)
      · exact hDC hb.symm
    · exact cellOff y hy hb
  have VoffF : ∀ b, V b → ¬ c.F b := fun b hb f => I₀.fresh (new₀ b (.inl hb)) (.inl (I₀.FO b f))
  have fpW : ∀ b ∈ fp, ¬ W₂ b := fun b hb w => by
    rcases w with w | rfl | ⟨y, hy, rfl⟩
    · exact S.off b hb (.inr w)
    · have := fpLt _ hb; rw [hCz] at this; exact Nat.lt_irrefl _ (Nat.lt_of_succ_lt this)
    · rcases cellNew y hy with h1 | h1
      · exact S.off _ hb (.inr (I₂.wcell y (mem_of_lookup (inCl y h1))))
      · have h2 := h1.1
        rw [hCz] at h2
        exact Nat.lt_irrefl _ (Nat.lt_trans (fpLt _ hb) (Nat.lt_of_succ_lt h2))
  have fpD : ∀ b ∈ fp, b ≠ Dd := fun b hb e => by have := fpLt b hb; rw [e] at this; exact Nat.lt_irrefl _ this
  have fpF : ∀ b ∈ fp, ¬ c.F b := fun b hb f => S.off b hb (.inl (I₀.FO b f))
  have xnew : x ∉ cl.map (fun y => 0) ∨ True := .inr trivial
  -- changes at new things alone
  have stepN : ∀ {h h' : Heap}, EExt c s₀.heap h → (∀ b o, ¬ (V b ∨ b = C ∨ (∃ y ∈ cellsFrom (C + 1) scope.names cl, y ∉ cl ∧ y.2 = b)) → h.get? b = some o → h'.get? b = some o) → EExt c s₀.heap h' := fun {h h'} e k => by
    have off : ∀ b o, s₀.heap.get? b = some o → ¬ (V b ∨ b = C ∨ (∃ y ∈ cellsFrom (C + 1) scope.names cl, y ∉ cl ∧ y.2 = b)) := fun b o e' q => by rw [new₀ b q] at e'; cases e'
    refine ⟨⟨fun b o hb e' => ?_, fun b o hb hf e' => k b o (off b o e') (e.ext.keep b o hb hf e')⟩, fun m hm => ?_⟩
    · obtain ⟨o', ho', s1⟩ := e.ext.more b o hb e'
      exact ⟨o', k b o' (off b o e') ho', s1⟩
    · obtain ⟨o, ho⟩ := I₀.there c.L (.inl I₀.wL)
      obtain ⟨o', es, ep, ho', r⟩ := e.ns m hm
      exact ⟨o', es, ep, k _ _ (off c.L o ho) ho', r⟩
  have ρx : restr fv ρ x = none := by unfold restr; rw [if_neg hxf]
  have ρy : restr fv ρ y = none := by unfold restr; rw [if_neg hyf]
  let J : Nat → Shared → Prop := fun k s' => ∃ i h' tk vs kk out, s' = { s₀ with heap := h', toks := tk } ∧ k = ds.length + 1 - i ∧ i ≤ ds.length ∧ Iv Ω c₂ W₂ (restr fv ρ) h' ∧ EExt c s₀.heap h' ∧ St i h' ∧
    h'.get? Dd = some (lobj vs kk) ∧ Reps (fun b => O₂ b ∨ W₂ b) h' out vs ∧ (∀ j v d, P j v → ds[j]? = some d → Rep (fun b => O₂ b ∨ W₂ b) h' d v) ∧ comp2T x y ts₂ te (restr fv ρ) (ds.drop i) out Qout
  have start : J (ds.length + 1) { s₀ with heap := h₁, toks := tk₂ } := by
    refine ⟨0, h₁, tk₂, [], 0, [], rfl, rfl, Nat.zero_le _, I₁, x₁, S.walk.frame 0 hs₂ h₁ S.st (fun b _ o e => up₁ b o e), hDg, by unfold Reps; rfl, fun j v d hv hd => ?_, by rw [List.drop_zero]; exact hq⟩
    refine Rep.ext (W := fun _ => False) (F := fun _ => False) (.of_keep fun b o _ e => up₁ b o e) (fun _ q => q.elim) (fun b o e q => ?_) d v (S.items j v d hv hd)
    rcases q with (q | q | rfl) | q | rfl | ⟨y, hy, rfl⟩
    · exact .inl (.inl q)
    · exact .inl (.inr q)
    · rw [show hs₂.get? Dd = none from nD] at e; cases e
    · exact .inr q
    · rw [show hs₂.get? C = none from nC] at e; cases e
    · rcases cellNew y hy with h1 | h1
      · exact .inr (I₂.wcell y (mem_of_lookup (inCl y h1)))
      · rw [show hs₂.get? y.2 = none from h1.2.1] at e; cases e
  have loop : ∀ s₃ : Shared, J (ds.length + 1) s₃ → codeAny (model Ω.prog Ω.w) A (.compLoop (.ListComp elt [⟨.Name (nm x) px, iter, [], 0⟩, ⟨.Name (nm y) py, iter₂, [], 0⟩] scope pos) 0 (.ref Ia) (.ref Dd) c₂.env) (RR (.ref Dd) C) s₃ := by
    intro s₃ hJ
    refine codeAny_comp2_outer J ?_ (ds.length + 1) hJ (hfs C)
    rintro k s' ⟨i, h', tk, vs, kk, out, rfl, rfl, hi, I, xe, st, hD, hr, it, hl⟩
    rcases Nat.lt_or_ge i ds.length with hlt | hge
    · have hd : ds[i]? = some ds[i] := List.getElem?_eq_getElem hlt
      rw [List.drop_eq_getElem_cons hlt] at hl
      refine S.walk.item i _ _ _ hlt st fun v h₃ tk₃ hPv st₃ k₃ => ?_
      have k₃' : ∀ b o, ¬ V b → h'.get? b = some o → h₃.get? b = some o := fun b o hb e => k₃ b o (fun m => hb (.inl m)) e
      have hDw : Dd ∉ wr := fun m => Nat.lt_irrefl _ (wrC _ m)
      have I₃ : Iv Ω c₂ W₂ (restr fv ρ) h₃ := Iv.step (c := c₂) (O₁ := O₂) (O₂ := O₂) (V := fun b => b ∈ wr) I (fun b o hb e => k₃ b o hb e) (fun b hb => ⟨.inr (.inl hb), VoffW b (.inl hb), baseNo b (.inl hb), VoffF b (.inl hb)⟩) (fun _ q => q) I.FO fun b hb => by
        by_cases q : b ∈ wr
        · exact S.there _ h₃ b st₃ (S.walk.sub b q)
        · obtain ⟨o, ho⟩ := I.there b (.inr hb)
          exact ⟨o, k₃ b o q ho⟩
      have xw : Ext (fun b => b ∈ wr) (fun _ => False) h' h₃ := .of_keep fun b o hb e => k₃ b o hb e
      have wrO : ∀ b, b ∈ wr → O₂ b ∨ W₂ b := fun b hb => .inl (.inr (.inl hb))
      have rd : Rep (fun b => O₂ b ∨ W₂ b) h₃ ds[i] v := Rep.ext xw wrO (fun _ _ _ z => z) _ v (it i v _ hPv hd)
      refine assign_Name (store' (c := c₂) (s := { s₀ with heap := h₃, toks := tk₃ }) I₃ (hp C O₂) rd fun w h₄ tk₄ hw hwa hs₄ I₄ => ?_)
      have wNew : V w ∨ w = C ∨ (∃ y ∈ cellsFrom (C + 1) scope.names cl, y ∉ cl ∧ y.2 = w) := by
        rcases hwa with q | q
        · exact .inr (.inl q)
        · refine .inr (.inr ⟨_, q, fun m => ?_, rfl⟩)
          have := lookup_of_mem_nodup (nodupB_ok hnd) m
          rw [hxcl] at this; cases this
      have xe₄ : EExt c s₀.heap h₄ := stepN (stepN xe fun b o hb e => k₃' b o (fun q => hb (.inl q)) e) fun b o hb e => (hs₄.2 b fun (q : b = w) => hb (q ▸ wNew)).trans e
      have wD : w ≠ Dd := fun q => VoffW Dd (.inr rfl) (q ▸ hw)
      have st₄ : St (i + 1) h₄ := S.walk.frame _ h₃ h₄ st₃ fun b hb o e => (hs₄.2 b fun (q : b = w) => fpW b hb (q ▸ hw)).trans e
      have hD₄ : h₄.get? Dd = some (lobj vs kk) := (hs₄.2 Dd (Ne.symm wD)).trans (k₃ Dd _ hDw hD)
      have up₄ : ∀ d v, Rep (fun b => O₂ b ∨ W₂ b) h' d v → Rep (fun b => O₂ b ∨ W₂ b) h₄ d v := fun d v r =>
        Rep.ext (F := fun _ => False) (ext_but hs₄) (fun b hb => .inr (hb ▸ hw)) (fun _ _ _ z => z) d v (Rep.ext xw wrO (fun _ _ _ z => z) d v r)
      have hr₄ : Reps (fun b => O₂ b ∨ W₂ b) h₄ out vs := Reps.ext (F := fun _ => False) (ext_but hs₄) (fun b hb => .inr (hb ▸ hw)) (fun _ _ _ z => z) out vs (Reps.ext xw wrO (fun _ _ _ z => z) out vs hr)
      have hl' : ts₂ (upd (restr fv ρ) x (.val ds[i])) (fun es => out.length + es.length ≤ 4096 ∧ compT y bYes te (upd (restr fv ρ) x (.val ds[i])) es out (fun acc' => comp2T x y ts₂ te (restr fv ρ) (ds.drop (i + 1)) acc' Qout)) (fun _ => False) := hl
      have bad : ∀ {v : Value} {s' : Shared} {s : Shared} {X : Prop}, XPost Ω c₂ W₂ s (fun _ => False) v s' → X := fun p => by obtain ⟨_, _, _, _, _, _, hE, _⟩ := p; exact hE.elim
      refine wpAny_mono (ht C O₂ A W₂ _ _ (fun _ => False) { s₀ with heap := h₄, toks := tk₄ } a₂ I₄ hl') (fun xv s₅ p => wpAny_mono p (fun it₂ s₆ q => ?_) fun v s' p => bad p) fun v s' p => bad p
      obtain ⟨es, Ib, fp₂, wr₂, P₂, St₂, S₂, hlen₂, hc₂⟩ := q
      obtain rfl := S₂.val
      have CL : c₂.env.locals ≠ c₂.L := fun e => by
        obtain ⟨o, ho⟩ := I₀.there c.L (.inl I₀.wL)
        rw [← show C = c.L from e, g₀ C nC] at ho; cases ho
      have ρ₁y : upd (restr fv ρ) x (.val ds[i]) y = none := by unfold upd; rw [if_neg hxy]; exact ρy
      refine comp_inner (c := c₂) (g₀ := ⟨.Name (nm x) px, iter, [], 0⟩) a₂ I₄ S₂ hD₄ (.inr (.inr rfl)) (VoffW Dd (.inr rfl)) (baseNo Dd (.inr rfl)) (VoffF Dd (.inr rfl)) hr₄ (hpy C O₂) CL ρ₁y (fun O' => he C O') hlen₂ hc₂ ?_
      intro h₇ tk₇ vs₇ kk₇ out₇ hQ₇ I₇ x₇ hD₇ hr₇ _
      have st₇ : St (i + 1) h₇ := S.walk.frame _ _ _ st₄ fun b hb o g => x₇.ext.keep b o (fun q => by
        rcases q with q | q | q
        · exact fpW b hb (q ▸ .inl I₀.wL)
        · exact fpW b hb (.inr (.inl q))
        · exact fpD b hb q) (fpF b hb) g
      have xe₇ : EExt c s₀.heap h₇ := by
        have off : ∀ b o, s₀.heap.get? b = some o → b ≠ c₂.env.locals ∧ b ≠ Dd := fun b o e => ⟨(fun q => by rw [show b = C from q, g₀ C nC] at e; cases e), (fun q => by rw [q, g₀ _ nD] at e; cases e)⟩
        refine ⟨⟨fun b o hb e => ?_, fun b o hb hf e => x₇.ext.keep b o (fun q => by
          rcases q with q | q | q
          · exact hb q
          · exact (off b o e).1 q
          · exact (off b o e).2 q) hf (xe₄.ext.keep b o hb hf e)⟩, fun m hm => x₇.ns m (xe₄.ns m hm)⟩
        obtain ⟨o', ho', s1⟩ := xe₄.ext.more b o hb e
        obtain ⟨o'', ho'', s2⟩ := x₇.ext.more b o' (fun q => by
          rcases q with q | q | q
          · exact hb q
          · exact (off b o e).1 q
          · exact (off b o e).2 q) ho'
        exact ⟨o'', ho'', s1.trans s2⟩
      refine ⟨ds.length + 1 - (i + 1), lt_less hlt, i + 1, h₇, tk₇, vs₇, kk₇, out₇, rfl, rfl, hlt, I₇.forget fun j sl hj => ?_, xe₇, st₇, hD₇, hr₇, fun j v d hv hd => ?_, hQ₇⟩
      · unfold upd
        rw [if_neg fun e => by rw [e, ρx] at hj; cases hj]
        exact hj
      · refine Rep.ext x₇.ext (fun b hb => ?_) (fun _ _ _ z => z) d v (up₄ d v (it j v d hv hd))
        rcases hb with q | q | q
        · exact .inr (q ▸ .inl I₀.wL)
        · exact .inr (.inr (.inl q))
        · exact .inl (.inr (.inr q))
    · have hi' : i = ds.length := Nat.le_antisymm hi hge
      subst hi'
      rw [List.drop_length] at hl
      refine S.walk.done _ _ _ st fun h₃ tk₃ k₃ => ?_
      obtain ⟨m, α, hm, _⟩ := I.vars
      have hCw : C ∉ wr := fun q => by have := wrC _ q; rw [hCz] at this; exact Nat.lt_irrefl _ (Nat.lt_of_succ_lt this)
      have hm₃ : h₃.Ns C m := by obtain ⟨o, es, ep, ho, r⟩ := hm; exact ⟨o, es, ep, k₃ C o hCw ho, r⟩
      have hDw : Dd ∉ wr := fun m => Nat.lt_irrefl _ (wrC _ m)
      refine hRR Dd C h₃ tk₃ m vs kk out hl (g₀ _ nD) (g₀ _ nC) hDC hm₃ (k₃ Dd _ hDw hD) ?_ (stepN xe fun b o hb e => k₃ b o (fun q => hb (.inl (.inl q))) e)
      refine Reps.ext (W := fun b => b ∈ wr) (F := fun _ => False) (.of_keep fun b o hb e => k₃ b o hb e) (fun b hb => .inl (.inr (.inl hb))) (fun b o e q => ?_) out vs hr
      rcases q with (q | q) | q
      · exact .inl (.inl q)
      · exact .inr (.inl q)
      · exact .inr (.inr (.inl q))
  refine codeAny_compStart_list (loop _ start) ?_
  exact S.walk.self 0 _ _ _ (S.walk.frame 0 hs₂ h₁ S.st (fun b _ o e => up₁ b o e)) (loop _ start)
noncomputable def tComp2 (x y : Nat) (fv : List Nat) (ts ts₂ : TR) (te : TE) : TE := fun ρ Q E => ts ρ (fun ds => comp2T x y ts₂ te (restr fv ρ) ds [] (fun out => Q (.list out))) E
theorem ev_comp2 {elt iter iter₂ : Expr} {x y : Nat} {px py : Pos} {scope : Scope} {cl : List (Str × Addr)} {pos : Pos} {fv : List Nat} {ts ts₂ : TR} {te : TE} (S : ScOk c scope cl fv x) (hpy : ∀ C O, OwnPl (cctx c scope cl C O) y) (hxf : x ∉ fv) (hyf : y ∉ fv) (hxy : y ≠ x) (hsrc : SRC Ω n c iter ts)
    (ht : ∀ C O, SRC Ω n (cctx c scope cl C O) iter₂ ts₂) (he : ∀ C O, EV Ω n (cctx c scope cl C O) elt te)
    (hs : ∀ y, foldedSetIterable iter c.env y = pure y := by intro _; with_unfolding_all rfl) (hfs : ∀ C x, foldedSetIterable iter₂ (compEnv scope cl C c.env) x = pure x := by intro _ _; with_unfolding_all rfl) :
    EV Ω n c (.ListComp elt [⟨.Name (nm x) px, iter, [], 0⟩, ⟨.Name (nm y) py, iter₂, [], 0⟩] scope pos) (tComp2 x y fv ts ts₂ te) := by
  intro A W ρ Q E s a I hq
  rw [eval_ListComp]
  refine wpAny_comprehension_free (use := none) rfl hs (closureFor_of S.clos) S.kind S.names (wpAny_mono (hsrc A W ρ _ E s a I hq) (fun xv s₁ h₁ => wpAny_mono h₁ (fun it s₂ h₂ => ?_) fun _ _ e => e) fun _ _ e => e)
  obtain ⟨ds, Ia, fp, wr, P, St, So, hl⟩ := h₂
  obtain rfl := So.val
  refine comp2_core a I So S.clos S.kind S.nd S.fv S.pl S.xcl hpy hxf hyf hxy ht he hfs hl (RR := fun acc C => compPost (model Ω.prog Ω.w) A _ none _ acc C) ?_
  intro D C h' tk m vs k out hQ nD nC hDC hns hD hr xe
  refine ⟨m, hns, fun h'' hs'' => ?_⟩
  obtain ⟨xe', hrep⟩ := comp_rep I nD nC hDC hD hr xe hs''
  exact ⟨h'', tk, rfl, xe', I.eext xe', .list out, hrep, hQ⟩
end
end Mine
end
section
open PySem PySem.W PyProof.Rows PySem.Calls
set_option Elab.async false
set_option linter.all false
set_option autoImplicit false
set_option maxRecDepth 100000
namespace Mine
section
variable {Ω : Wd} {n : Nat} {c : Ctx}
noncomputable def dNeT : OpT := fun a b Q _ => ∃ i j k l, a = .tup [.int i, .int j] ∧ b = .tup [.int k, .int l] ∧ Q (.bool (!(decide (i = k) && decide (j = l))))
theorem op_neT : OpOk Ω n c (compareOp .NotEq) dNeT := by
  intro A W ρ Q E s a b va vb ha I ra rb ⟨i, j, k, l, h1, h2, hq⟩
  subst h1 h2
  unfold Rep at ra rb
  obtain ⟨x, vs, rfl, hx, _, hr⟩ := ra; obtain ⟨y, us, rfl, hy, _, hs⟩ := rb
  obtain ⟨v1, v2, rfl, r1, r2⟩ := reps2 hr
  obtain ⟨u1, u2, rfl, q1, q2⟩ := reps2 hs
  unfold Rep at r1 r2 q1 q2
  obtain ⟨t1, rfl⟩ := r1; obtain ⟨t2, rfl⟩ := r2; obtain ⟨t3, rfl⟩ := q1; obtain ⟨t4, rfl⟩ := q2
  obtain ⟨o, ho, hc, _, hd⟩ := hx; obtain ⟨o', ho', hc', _, hd'⟩ := hy
  refine ne_dataH (Reads.tuple ho hc hd (.cons (.int i t1) (.cons (.int j t2) .nil))) (Reads.tuple ho' hc' hd' (.cons (.int k t3) (.cons (.int l t4) .nil))) (by rfl) (by rfl) (by have := ha.units; omega) ?_
  have e : PyData.eqv (.tuple [.int i, .int j]) (.tuple [.int k, .int l]) = (decide (i = k) && decide (j = l)) := by
    by_cases h1 : i = k <;> by_cases h2 : j = l <;> simp [PyData.eqv, PyData.eqvAll, h1, h2]
  rw [e]
  exact post_here' I ⟨.bool _, by unfold Rep; rfl, hq⟩
noncomputable def dInO : OpT := fun a b Q E => dIn a b Q E ∨ ∃ (ds : List D) (is : List Nat), a = .list ds ∧ b = .list (is.map D.str) ∧ Q (.bool false)
theorem strs_mem {vs : List Value} {xs : List Str} (h : StrsAre vs xs) : ∀ y ∈ vs, ∃ x t, y = .str x t := by
  induction h with
  | nil => intro y hy; cases hy
  | cons x t _ ih =>
    intro y hy
    rcases List.mem_cons.mp hy with rfl | hy
    · exact ⟨_, _, rfl⟩
    · exact ih y hy
theorem op_inO : OpOk Ω n c (compareOp .In) dInO := by
  intro A W ρ Q E s a b va vb ha I ra rb h
  rcases h with h | ⟨ds, is, rfl, rfl, hq⟩
  · exact op_in A W ρ Q E s a b va vb ha I ra rb h
  · unfold Rep at ra rb
    obtain ⟨x, us, rfl, hx, _, _⟩ := ra; obtain ⟨l, vs, rfl, hl, _, hr⟩ := rb
    have hst := strs_mem (Reps.toStrs hr).1
    refine SeqAt.in_listAt (fun _ => false) hl (fun y hy => ?_) ?_
    · obtain ⟨z, t, rfl⟩ := hst y (by simpa using hy)
      exact SeqAt.EqAt.str_list z t hx (by have := ha.units; show A.units + 1 < _; omega)
    · have : (vs.toArray.any fun _ => false) = false := by simp
      rw [this]
      exact post_here' I ⟨.bool false, by unfold Rep; rfl, hq⟩
theorem tv_plain {x : Expr} {t : TE} (h : EV Ω n c x t) (he : ∀ whole, isTrue x c.env whole = (do let v ← whole; standAt x.pos; holding [v] (truthy v)) := by intro _; with_unfolding_all rfl) : TV Ω n c x (tTest t) := by
  intro A W ρ Q E s a I hq
  refine isTrue_plain (pb (.refl I) (h A W ρ _ E s a I hq) fun v s₁ b₁ _ ⟨d, rd, hd⟩ => ?_) (he _)
  obtain ⟨b, rfl, hb⟩ := hd
  unfold Rep at rd
  subst rd
  exact wpAny_truthy_bool (pl b₁ hb)
noncomputable def tIsBool (t : TE) : TE := fun ρ Q E => t ρ (fun d => ∃ i, d = .int i ∧ Q (.bool false)) E
theorem ev_isBool {np bp pos : Pos} {e : Expr} {t : TE} (h : EV Ω n c e t) (hx : c.env.kindOf "isinstance" = some .globalImplicit) (hK : nsIn Ω.K mainGlobals "isinstance" = some none)
    (hx' : c.env.kindOf "bool" = some .globalImplicit) (hK' : nsIn Ω.K mainGlobals "bool" = some none)
    (hst : starEach [e, .Name "bool" bp] c.env = (false, eval e c.env) :: (false, eval (.Name "bool" bp) c.env) :: starEach [] c.env := by with_unfolding_all rfl) :
    EV Ω n c (.Call (.Name "isinstance" np) [e, .Name "bool" bp] [] pos) (tIsBool t) := by
  intro A W ρ Q E s a I hq
  refine Call_ (blt_name I hx hK (v := .builtin "isinstance") (by decide +kernel) (by decide +kernel) (by decide +kernel) ?_)
  refine callWith_builtin (by rw [hst]; rfl) ?_
  rw [hst]
  refine evalArgs_plain (spliced_cons (pb (.refl I) (h A W ρ _ E s a I hq) fun v s₁ b₁ _ ⟨d, rd, i, hd, hQ⟩ => ?_))
  subst hd
  unfold Rep at rd
  obtain ⟨t', rfl⟩ := rd
  refine spliced_cons (blt_name b₁.iv hx' hK' (v := .type "bool") (by decide +kernel) (by decide +kernel) (by decide +kernel) (spliced_nil ?_))
  exact IsiPair.int_bool (pl (b₁.tok _) ⟨.bool false, by unfold Rep; rfl, hQ⟩)
theorem xpost_withO {O : Addr → Prop} (hO : ∀ b, c.O b → O b) (hF : ∀ b, c.F b → c.O b) {W : Addr → Prop} {s s' : Shared} {E : Nat → Prop} {v : Value} (p : XPost Ω (c.withO O) W s E v s') : XPost Ω c W s E v s' := by
  obtain ⟨k, e, h', tk, hv, hs, hE, R, W', g, J⟩ := p
  exact ⟨k, e, h', tk, hv, hs, hE, ⟨R.ext, R.keep, R.new, R.frs, R.exc⟩, W', g, J.step (c := c) (V := fun _ => False) (fun b o _ e => e) (fun _ q => q.elim) hO hF fun b hb => J.there b (.inr (hO b hb))⟩
noncomputable abbrev TP := Rho → (List (Nat × D) → Prop) → (Nat → Prop) → Prop
noncomputable def PairsRep (O : Addr → Prop) (h : Heap) : List (Nat × D) → List (Value × Value) → Prop
  | [], vs => vs = []
  | (k, d) :: r, vs => ∃ t v vs', vs = (.str (tx k) t, v) :: vs' ∧ k < 18 ∧ Rep O h d v ∧ PairsRep O h r vs'
noncomputable def EVp (Ω : Wd) (n : Nat) (c : Ctx) (keys : List (Option Expr)) (values : List Expr) (T : TP) : Prop :=
  ∀ (A : Around) (W : Addr → Prop) (ρ : Rho) (Q : List (Nat × D) → Prop) (E : Nat → Prop) (s : Shared) (pos : Pos), AOk c n A → Iv Ω c W ρ s.heap → T ρ Q E →
    wpAny (model Ω.prog Ω.w) A (evalPairs (pairTrees keys values c.env pos)) (Post Ω c W ρ s (fun h' vs => ∃ ps, PairsRep (fun b => c.O b ∨ W b) h' ps vs ∧ Q ps)) (XPost Ω c W s E) s
noncomputable def pNil : TP := fun _ Q _ => Q []
noncomputable def pCons (k : Nat) (t : TE) (ts : TP) : TP := fun ρ Q E => t ρ (fun d => ts ρ (fun ps => Q ((k, d) :: ps)) E) E
theorem evp_nil : EVp Ω n c [] [] pNil := by
  intro A W ρ Q E s pos a I h
  exact pairTrees_nil_walk (post_here' I ⟨[], by unfold PairsRep; rfl, h⟩)
theorem evp_cons {k kk : Nat} {kp : Pos} {ks : List (Option Expr)} {v : Expr} {vs : List Expr} {t : TE} {ts : TP} (hk : k < 18) (h : EV Ω n c v t) (hs : EVp Ω n c ks vs ts) : EVp Ω n c (some (.Constant (.str (tx k)) kk kp) :: ks) (v :: vs) (pCons k t ts) := by
  intro A W ρ Q E s pos a I hq
  refine pairTrees_cons_walk (Constant_str ?_)
  have b₀ := (Bk.refl I).tok (s.toks + 1)
  refine pb b₀ (h A W ρ _ E _ a I hq) fun x s₁ b₁ _ ⟨d, rd, hd⟩ => ?_
  refine pb b₁ (hs A W ρ _ E s₁ pos a b₁.iv hd) fun r s₂ b₂ x₂ ⟨ps, rps, hps⟩ => ?_
  refine pl b₂ ⟨(k, d) :: ps, ?_, hps⟩
  unfold PairsRep
  exact ⟨_, x, r, rfl, hk, rd.eext x₂ (.inr I.wL), rps⟩
noncomputable def keyP (p : Value × Value) : Str × Value := (match p.1 with | .str x _ => x | _ => Str.ofString "", p.2)
theorem pairs_carry {O : Addr → Prop} {h : Heap} {prog : Program} {w : World} : ∀ {ps : List (Nat × D)} {vs : List (Value × Value)}, PairsRep O h ps vs → Carries (strKind prog w) vs (vs.map keyP)
  | [], _, r => by unfold PairsRep at r; subst r; exact trivial
  | (k, d) :: ps, _, r => by
    unfold PairsRep at r
    obtain ⟨t, v, vs', rfl, hk, rv, rr⟩ := r
    exact ⟨strKind_is _ _ _ _, rfl, pairs_carry rr⟩
theorem merged_nodup {K : Type} [DecidableEq K] : ∀ (acc more : List (K × Value)), ((acc ++ more).map (·.1)).Nodup → merged acc more = acc ++ more := merged_append_of_fresh
theorem pairs_value {O : Addr → Prop} {h : Heap} : ∀ {ps : List (Nat × D)} {vs : List (Value × Value)}, PairsRep O h ps vs → ∀ {k : Nat} {d : D}, k < 18 → ps.lookup k = some d →
    ∃ v, Rep O h d v ∧ valueAt (vs.map keyP) (tx k) = some v
  | [], _, _, _, _, _, e => by cases e
  | (j, e) :: ps, _, r, k, d, hk, hl => by
    unfold PairsRep at r
    obtain ⟨t, v, vs', rfl, hj, rv, rr⟩ := r
    unfold valueAt
    rw [List.map_cons, List.find?_cons]
    by_cases q : k = j
    · subst q
      rw [List.lookup_cons, beq_self_eq_true] at hl
      cases hl
      exact ⟨v, rv, by rw [show keyP (Value.str (tx k) t, v) = (tx k, v) from rfl]; simp⟩
    · have hne : ¬ (tx j = tx k) := fun e => by
        have h1 := tx_eq j hj k hk
        rw [e, beq_self_eq_true] at h1
        exact q (eq_of_beq h1.symm).symm
      rw [List.lookup_cons, beq_eq_false_iff_ne.mpr q] at hl
      obtain ⟨v', r', e'⟩ := pairs_value rr hk hl
      refine ⟨v', r', ?_⟩
      rw [show keyP (Value.str (tx j) t, v) = (tx j, v) from rfl]
      simp only [decide_eq_false hne]
      exact e'
theorem pairs_keys {O : Addr → Prop} {h : Heap} : ∀ {ps : List (Nat × D)} {vs : List (Value × Value)}, PairsRep O h ps vs → (vs.map keyP).map (·.1) = ps.map fun p => tx p.1
  | [], _, r => by unfold PairsRep at r; subst r; rfl
  | (j, e) :: ps, _, r => by
    unfold PairsRep at r
    obtain ⟨t, v, vs', rfl, hj, rv, rr⟩ := r
    rw [List.map_cons, List.map_cons, pairs_keys rr]; rfl
noncomputable def tDictIdx (ts : TP) (ti : TE) : TE := fun ρ Q E => ts ρ (fun ps => nodupB (ps.map fun p => tx p.1) = true ∧ ti ρ (fun d => ∃ k r, d = .str k ∧ ps.lookup k = some r ∧ Q r) E) E
theorem ev_dictIdx {keys : List (Option Expr)} {values : List Expr} {dp pos : Pos} {x : Expr} {ts : TP} {ti : TE} (hp : ∀ O', EVp Ω n (c.withO O') keys values ts) (hi : EV Ω n c x ti)
    (hall : keys.all (·.isSome) = true := by rfl) (hl : keys.length = values.length := by rfl) (h0 : keys ≠ [] := by intro q; cases q) (hlen : keys.length ≤ 15 := by decide)
    (hs : ∀ (o v : Value), subscripted x false o v = operate [o, v] (getItem o v) := by intro _ _; with_unfolding_all rfl) : EV Ω n c (.Subscript (.Dict keys values dp) x pos) (tDictIdx ts ti) := by
  intro A W ρ Q E s a I hq
  refine Subscript_ (wpAny_Dict_walk (knd := strKind Ω.prog Ω.w) hall hl h0 hlen ?_)
  let Dd : Addr := s.heap.objs.size
  have nD : s.heap.get? Dd = none := get_size _
  let h₁ : Heap := s.heap.push { cls := .type "dict", data := .dict #[] }
  have x₁ : EExt c s.heap h₁ := .push c s.heap _
  have DL : ¬ Dd = c.L := fun e => I.fresh nD (.inr (e ▸ I.wL))
  have DF : ¬ c.F Dd := fun f => I.fresh nD (.inl (I.FO Dd f))
  have DW : ¬ W Dd := fun w => I.fresh nD (.inr w)
  have DB : Ω.base.get? Dd = none := by
    cases q : Ω.base.get? Dd with
    | none => rfl
    | some o => have := I.keep Dd o q; rw [nD] at this; cases this
  have I₁ : Iv Ω (c.withO fun b => c.O b ∨ b = Dd) W ρ h₁ := I.widen x₁ (V := fun b => b = Dd) fun b hb => by subst hb; exact ⟨nD, _, Heap.get?_push_size _ rfl⟩
  have a₁ : AOk (c.withO fun b => c.O b ∨ b = Dd) n A := ⟨a.hd, a.frames, a.depth, a.units⟩
  have bx : Bk Ω c W ρ s { s with heap := h₁ } := ⟨h₁, s.toks, rfl, x₁, I.eext x₁⟩
  refine wpAny_mono (hp (fun b => c.O b ∨ b = Dd) A W ρ _ E { s with heap := h₁ } dp a₁ I₁ hq) (fun vs s₂ p => ?_) fun v s' p => bx.xback (xpost_withO (fun b q => .inl q) I.FO p)
  obtain ⟨h₂, tk₂, rfl, x₂', I₂, ps, rps, hnd, hd⟩ := p
  have x₂ : EExt c h₁ h₂ := ⟨x₂'.ext, x₂'.ns⟩
  have hDict : h₂.DictOf (strKind Ω.prog Ω.w) Dd [] := by
    obtain ⟨o, es, ep, ho, r⟩ := Heap.DictOf.new (knd := strKind Ω.prog Ω.w) s.heap
    exact ⟨o, es, ep, x₂.ext.keep Dd o DL DF ho, r⟩
  refine ⟨_, pairs_carry rps, hDict, fun h' hD' hs' => ?_⟩
  have hnd' : (([] ++ vs.map keyP : List (Str × Value)).map (·.1)).Nodup := by
    rw [List.nil_append, pairs_keys rps]; exact nodupB_ok hnd
  rw [merged_nodup _ _ hnd', List.nil_append] at hD'
  have hs'' : Heap.SameBut Dd h₂ h' := hs'
  have e₂ : EExt c s.heap h₂ := x₁.trans x₂
  have e₃ : EExt c s.heap h' := by
    refine ⟨⟨fun b o hb e => ?_, fun b o hb hf e => (hs''.2 b fun q => by rw [q, nD] at e; cases e).trans (e₂.ext.keep b o hb hf e)⟩, fun m hm => ?_⟩
    · obtain ⟨o', ho', s1⟩ := e₂.ext.more b o hb e
      exact ⟨o', (hs''.2 b fun q => by rw [q, nD] at e; cases e).trans ho', s1⟩
    · obtain ⟨o, es, ep, ho, r⟩ := e₂.ns m hm
      exact ⟨o, es, ep, (hs''.2 c.L fun q => DL q.symm).trans ho, r⟩
  have I₃ : Iv Ω c W ρ h' := I.eext e₃
  have b₃ : Bk Ω c W ρ s { s with heap := h', toks := tk₂ + vs.length } := ⟨h', _, rfl, e₃, I₃⟩
  refine pb b₃ (hi A W ρ _ E _ a I₃ hd) fun v s₄ b₄ x₄ ⟨d, rd, k, r, hdk, hlk, hQ⟩ => ?_
  subst hdk
  unfold Rep at rd
  obtain ⟨hk, t, rfl⟩ := rd
  obtain ⟨v', rv', hval⟩ := pairs_value rps hk hlk
  have rv₃ : Rep (fun b => c.O b ∨ W b) h' r v' := Rep.ext (F := fun _ => False) (ext_but hs'') (fun b hb => .inl (.inr hb)) (fun _ _ _ q => q.imp .inl id) r v' rv'
  have hD₄ : s₄.heap.DictOf (strKind Ω.prog Ω.w) Dd (vs.map keyP) := by
    obtain ⟨o, es, ep, ho, r⟩ := hD'
    exact ⟨o, es, ep, x₄.ext.keep Dd o DL DF ho, r⟩
  exact tail_any hD₄.typeIs slot_dict_getitem.lookup (wpAny_getItem_of (strKind_is _ _ _ _) hD₄.mapOf hval (pl (b₄.tok _) ⟨r, rv₃.eext x₄ (.inr I.wL), hQ⟩)) (hs _ _)
end
end Mine
end
section
open PySem PySem.W PyProof.Rows PySem.Calls
set_option Elab.async false
set_option linter.all false
set_option autoImplicit false
set_option maxRecDepth 100000
namespace Mine
section
variable {M : Model} {A : Around} {E : Value → Shared → Prop} {s : Shared}
theorem note_first {base : Heap} {env : Env} {outer : List Env} {L e : Addr} {oe : Obj} {vs : Array Value} {Q : Unit → Shared → Prop}
    (hfr : A.frames = some (env :: outer)) (hl : s.heap.FunFrames base (env :: outer)) (hf : env.frame = some L)
    (he : s.heap.get? e = some oe) (hkb : base.StaysIn s.heap) (hen : base.get? e = none) (hd : oe.data = .fields vs) (h1 : vs[1]? = some .none)
    (h : ∀ h', Heap.Left base (env :: outer) e oe.cls s.heap h' → Q () { s with heap := h' }) : wpAny M A (noteFrame (.ref e) env) (fun _ s' => wpAny M A (setFlight (.ref e) none) Q E s') E s := by
  unfold noteFrame
  simp only [hf]
  refine wpAny_bind (wpAny_field he hd h1 ?_)
  rw [if_neg (by decide)]
  exact wpAny_newEntry hfr hl hf he hkb hen hd (Array.getElem?_eq_some_iff.mp h1).1 h
theorem note_next {base : Heap} {env : Env} {outer : List Env} {L e : Addr} {cls : Value} {Q : Unit → Shared → Prop}
    (hfr : A.frames = some (env :: outer)) (hl : s.heap.FunFrames base (env :: outer)) (hf : env.frame = some L) (ht : s.heap.Traced base e cls) (hkb : base.StaysIn s.heap) (hen : base.get? e = none)
    (h : ∀ h', Heap.Left base (env :: outer) e cls s.heap h' → Q () { s with heap := h' }) : wpAny M A (noteFrame (.ref e) env) (fun _ s' => wpAny M A (setFlight (.ref e) none) Q E s') E s := by
  obtain ⟨oe, vs, T, oT, ts, he, hcls, hd, h1, hnT, hTe, hT, hdT, h3⟩ := ht
  subst hcls
  unfold noteFrame
  simp only [hf]
  refine wpAny_bind (wpAny_field he hd h1 ?_)
  rw [if_pos (show (Value.ref T != Value.none) = true from by simp)]
  refine wpAny_bind (wpAny_field hT hdT h3 ?_)
  rw [if_neg (show ¬ ((Value.none == rawInt L) = true) from by simp [rawInt])]
  refine wpAny_bind (wpAny_setField hT hdT (Array.getElem?_eq_some_iff.mp h3).1 ?_)
  have other : ∀ b, b ≠ T → (s.heap.update T (Obj.mapFields (·.setIfInBounds 3 Value.none))).get? b = s.heap.get? b := fun b hb => Heap.get?_update_other _ _ (Ne.symm hb)
  have noRecord : ∀ b o, s.heap.get? b = some o → (∀ vs, o.data ≠ .fields vs) → b ≠ T := fun b o hb hnf q => by
    rw [q, hT] at hb; injection hb with hb; subst hb; exact hnf ts hdT
  refine wpAny_newEntry hfr (hl.of_keeps fun b o hb hnf => ⟨o, (other b (noRecord b o hb hnf)).trans hb, rfl⟩) hf ((other e (Ne.symm hTe)).trans he)
    (fun b o hbo => (other b fun q => by rw [q, hnT] at hbo; cases hbo).trans (hkb b o hbo)) hen hd (Array.getElem?_eq_some_iff.mp h1).1
    fun h' ⟨x1, x2, x3, x4⟩ => h h' ⟨x1, x2, x3, fun b o hb hnf => x4 b o ((other b (noRecord b o hb hnf)).trans hb) hnf⟩
end
section
variable {Ω : Wd} {n : Nat} {c : Ctx}
theorem Iv.recs {W : Addr → Prop} {h h' : Heap} (I : Iv Ω c W rho0 h) (keep : ∀ b o, Ω.base.get? b = some o → h'.get? b = some o)
    (plain : ∀ b o, h.get? b = some o → (∀ vs, o.data ≠ .fields vs) → ∃ sl, h'.get? b = some { o with slots := sl }) (there : ∀ b, W b ∨ c.O b → ∃ o', h'.get? b = some o') : Iv Ω c W rho0 h' := by
  have ns : ∀ {a m}, h.Ns a m → h'.Ns a m := fun {a m} ⟨o, es, ep, ho, hd, q⟩ => by
    obtain ⟨sl, hsl⟩ := plain a o ho fun vs q => by rw [hd] at q; cases q
    exact ⟨_, es, ep, hsl, hd, q⟩
  refine ⟨keep, I.wabove, ?_, I.wL, I.wenv, I.wcell, I.cellL, fun x hx => ?_, I.wF, I.FO, there, I.apart, I.frL, I.kind, I.glob, I.blt, fun ev hev => ?_, ?_⟩
  · obtain ⟨m, hm⟩ := I.ns0; exact ⟨m, ns hm⟩
  · obtain ⟨v, o, ho, hd⟩ := I.cellIs x hx
    obtain ⟨sl, hsl⟩ := plain x.2 o ho fun vs q => by rw [hd] at q; cases q
    exact ⟨v, _, hsl, hd⟩
  · obtain ⟨hk, L, o, hf, ho, hd, hab⟩ := I.frs ev hev
    obtain ⟨sl, hsl⟩ := plain L o ho hd
    exact ⟨hk, L, _, hf, hsl, hd, hab⟩
  · obtain ⟨m, α, hm, _⟩ := I.vars
    exact ⟨m, α, ns hm, (fun i sl q => by cases q), (fun i j ds es q => by cases q)⟩
theorem Iv.shrink {W W' : Addr → Prop} {ρ : Rho} {h₀ h : Heap} (I : Iv Ω c W ρ h₀) (J : Iv Ω c W' rho0 h) (g : ∀ b, W b → W' b) : Iv Ω c W rho0 h := by
  refine ⟨J.keep, fun b w => J.wabove b (g b w), J.ns0, I.wL, I.wenv, I.wcell, J.cellL, J.cellIs, fun b w => J.wF b (g b w), J.FO, fun b hb => J.there b (hb.imp (g b) id), J.apart, J.frL, J.kind, J.glob, J.blt, J.frs, ?_⟩
  obtain ⟨m, α, hm, _⟩ := J.vars
  exact ⟨m, α, hm, (fun i sl q => by cases q), (fun i j ds es q => by cases q)⟩
inductive CatchE : List (Nat × Nat) → List ExceptHandler → Prop where
  | nil : CatchE [] []
  | cons {k i kk : Nat} {np rp sp hp : Pos} {rest : List (Nat × Nat)} {hs : List ExceptHandler} : i < 18 → CatchE rest hs → CatchE ((k, i) :: rest) (.ExceptHandler (some (.Name (Str.ofString (excN k)) np)) none [.Return (some (.Constant (.str (tx i)) kk sp)) rp] hp :: hs)
theorem exc_sub : ∀ k j : Nat, k < 2 → j < 2 → isSubtype (.type (excN k)) (.type (excN j)) = pure (k == j)
  | 0, 0, _, _ => by rw [isSubtype_type]; kernel_rfl
  | 0, 1, _, _ => by rw [isSubtype_type]; kernel_rfl
  | 1, 0, _, _ => by rw [isSubtype_type]; kernel_rfl
  | 1, 1, _, _ => by rw [isSubtype_type]; kernel_rfl
theorem exc_base : ∀ k : Nat, k < 2 → isSubtype (.type (excN k)) (.type "BaseException") = pure true
  | 0, _ => by rw [isSubtype_type]; kernel_rfl
  | 1, _ => by rw [isSubtype_type]; kernel_rfl
theorem exc_not_tuple : ∀ k : Nat, k < 2 → isSubtype (.type ((Manifest.find? (excN k)).elim "type" fun x => x.metatype)) (.type "tuple") = pure false
  | 0, _ => F.notTuple_ZeroDivisionError
  | 1, _ => F.notTuple_AssertionError
theorem exc_boot : ∀ k : Nat, k < 2 → bootBuiltins (Str.ofString (excN k)) = some (.type (excN k)) ∧ (Str.ofString (excN k) == ("__debug__" : Str)) = false ∧ Str.ofString (excN k) ≠ "__name__"
  | 0, _ => by decide +kernel
  | 1, _ => by decide +kernel
structure Held (Ω : Wd) (c : Ctx) (W : Addr → Prop) (s₀ h : Heap) (e : Addr) (k : Nat) : Prop where
  iv : Iv Ω c W rho0 h
  ext : Ext W c.F s₀ h
  tr : ∃ oe vs T oT ts, h.get? e = some oe ∧ oe.cls = .type (excN k) ∧ oe.data = .fields vs ∧ vs[1]? = some (.ref T) ∧ h.get? T = some oT ∧ oT.data = .fields ts ∧ 3 < ts.size ∧ s₀.get? T = none ∧ Ω.base.get? T = none
theorem handle {A : Around} {W : Addr → Prop} {s : Shared} {Q : Flw → Rho → Prop} {X : Value → Shared → Prop} {e : Addr} {k : Nat} {tk : Nat} (hbl : ∀ k, k < 2 → c.env.kindOf (Str.ofString (excN k)) = some .globalImplicit ∧ nsIn Ω.K mainGlobals (Str.ofString (excN k)) = some none) (hk : k < 2) :
    ∀ {cs : List (Nat × Nat)} {hs : List ExceptHandler}, CatchE cs hs → (∀ p ∈ cs, p.1 < 2) → ∀ {i : Nat}, cs.lookup k = some i → Q (.ret (.str i)) rho0 → ∀ {h : Heap}, Held Ω c W s.heap h e k → (∀ b, W b ∨ c.O b → ∃ o, s.heap.get? b = some o) →
      wpAny (model Ω.prog Ω.w) A (handleBy (.ref e) c.env hs) (SPost Ω c W s Q) X { s with heap := h, toks := tk }
  | _, _, .nil, _, _, hl, _, _, _, _ => by cases hl
  | _, _, .cons (k := j) (i := i') (kk := kk) (np := np) (rp := rp) (sp := sp) (hp := hp) hi hr, hcs, i, hl, hQ, h, H, th => by
    have hj : j < 2 := hcs (j, i') (.head _)
    obtain ⟨hb1, hb2, hb3⟩ := exc_boot j hj
    obtain ⟨hx, hK⟩ := hbl j hj
    obtain ⟨oe, vs, T, oT, ts, he, hcls, hd, h1, hT, hdT, hsz, hT0, hTB⟩ := H.tr
    refine wpAny_handleBy_builtin (X := excN k) (T := excN j) (b := (k == j)) (exc_base j hj) (exc_not_tuple j hj) (exc_sub k j hk hj) (blt_name H.iv hx hK hb1 hb3 hb2 ⟨rfl, ⟨oe, he, hcls⟩, ?_⟩)
    by_cases q : k = j
    · subst q
      rw [if_pos (beq_self_eq_true _)]
      rw [List.lookup_cons, beq_self_eq_true] at hl
      cases hl
      refine wpAny_setFlight_none he hd h1 hT hdT hsz ?_
      have other : ∀ b, b ≠ T → (h.update T (Obj.mapFields (·.setIfInBounds 3 Value.none))).get? b = h.get? b := fun b hb => Heap.get?_update_other _ _ (Ne.symm hb)
      have I' : Iv Ω c W rho0 (h.update T (Obj.mapFields (·.setIfInBounds 3 Value.none))) := H.iv.recs (fun b o hb => (other b fun q => by rw [q, hTB] at hb; cases hb).trans (H.iv.keep b o hb))
        (fun b o ho hnf => ⟨o.slots, (other b fun q => by rw [q, hT] at ho; cases ho; exact hnf _ hdT).trans ho⟩) fun b hb => by
          obtain ⟨o, ho⟩ := H.iv.there b hb
          obtain ⟨o', ho'⟩ := th b hb
          exact ⟨o, (other b fun q => by rw [q, hT0] at ho'; cases ho').trans ho⟩
      have x' : Ext W c.F s.heap (h.update T (Obj.mapFields (·.setIfInBounds 3 Value.none))) := ⟨fun b o hb e => by
          obtain ⟨o', ho', s1⟩ := H.ext.more b o hb e
          exact ⟨o', (other b fun q => by rw [q, hT0] at e; cases e).trans ho', s1⟩, fun b o hb hf e => (other b fun q => by rw [q, hT0] at e; cases e).trans (H.ext.keep b o hb hf e)⟩
      refine wpAny_execs_cons (wpAny_Return_some (Constant_str ?_))
      exact ⟨W, rho0, _, tk + 1, .ret (.str i'), rfl, x', .refl _ _, I', ⟨_, rfl, by unfold Rep; exact ⟨hi, _, rfl⟩⟩, hQ⟩
    · have hne : (k == j) = false := beq_eq_false_iff_ne.mpr q
      rw [hne, if_neg (by decide)]
      rw [List.lookup_cons, hne] at hl
      exact handle hbl hk hr (fun p hp => hcs p (.tail _ hp)) hl hQ H th
noncomputable def sTry (tb : TS) (cs : List (Nat × Nat)) : TS := fun ρ Q E => tb ρ Q (fun k => k < 2 ∧ ∃ i, cs.lookup k = some i ∧ Q (.ret (.str i)) rho0)
theorem ex_try {body : List Stmt} {h₀ : ExceptHandler} {hs : List ExceptHandler} {pos : Pos} {tb : TS} {cs : List (Nat × Nat)} (hf : c.env = c.fenv) (hbl : ∀ k, k < 2 → c.env.kindOf (Str.ofString (excN k)) = some .globalImplicit ∧ nsIn Ω.K mainGlobals (Str.ofString (excN k)) = some none)
    (hb : EXs Ω n c body tb) (hc : CatchE cs (h₀ :: hs)) (hcs : ∀ p ∈ cs, p.1 < 2) : EX Ω n c (.Try body (h₀ :: hs) [] [] pos) (sTry tb cs) := by
  intro A W ρ Q E s a I hq
  refine wpAny_Try_except (wpAny_mono (hb A W ρ Q _ s a I hq) (fun f s₁ p => ?_) fun v s₁ p => ?_)
  · obtain ⟨W', ρ', h', tk, g, rfl, x, gr, I', r, q⟩ := p
    cases g with
    | next => cases r; exact wpAny_execs_nil ⟨W', ρ', h', tk, .next, rfl, x, gr, I', rfl, q⟩
    | brk => cases r; exact ⟨W', ρ', h', tk, .brk, rfl, x, gr, I', rfl, q⟩
    | cont => cases r; exact ⟨W', ρ', h', tk, .cont, rfl, x, gr, I', rfl, q⟩
    | ret d => obtain ⟨v, rfl, hr⟩ := r; exact ⟨W', ρ', h', tk, .ret d, rfl, x, gr, I', ⟨v, rfl, hr⟩, q⟩
  · obtain ⟨k, e, h', tk, rfl, rfl, ⟨hk, i, hl, hQ⟩, R, W', g, J⟩ := p
    have J' := I.shrink J g.1
    rw [hf]
    have hfr : A.frames = some (c.fenv :: c.outer) := a.frames
    let fr : List Addr := (c.fenv :: c.outer).filterMap (·.frame)
    have inF : ∀ ev ∈ c.fenv :: c.outer, ∀ b, ev.frame = some b → b ∈ fr := fun ev hev b hb => List.mem_filterMap.mpr ⟨ev, hev, hb⟩
    have frAt : ∀ b ∈ fr, (b = c.L ∨ c.F b) ∧ Ω.base.get? b = none ∧ ∀ o, h'.get? b = some o → ∀ vs, o.data ≠ .fields vs := fun b hb => by
      obtain ⟨ev, hev, hb⟩ := List.mem_filterMap.mp hb
      obtain ⟨_, L, o, hfL, ho, hd, hab⟩ := R.frs ev hev
      rw [hb] at hfL; cases hfL
      refine ⟨?_, ?_, fun o' ho' => ?_⟩
      · cases hev with
        | head => exact .inl (Option.some.inj (hb.symm.trans I.frL))
        | tail _ hev => exact .inr ⟨ev, hev, hb⟩
      · exact Heap.get?_none_of_le hab
      · rw [ho] at ho'; cases ho'; exact hd
    have baseNo : ∀ b, s.heap.get? b = none → Ω.base.get? b = none := fun b hb => by
      cases q : Ω.base.get? b with
      | none => rfl
      | some o => rw [I.keep b o q] at hb; cases hb
    have go : ∀ (hid : List Addr), (∀ b ∈ hid, s.heap.get? b = none) → ∀ h'', Heap.Left (hideAll h' (fr ++ hid)) (c.fenv :: c.outer) e (.type (excN k)) h' h'' →
        wpAny (model Ω.prog Ω.w) A (handleBy (.ref e) c.fenv (h₀ :: hs)) (SPost Ω c W s Q) (XPost Ω c W s E) { s with heap := h'', toks := tk } := fun hid hh h'' ⟨k1, k2, k3, k4⟩ => by
      have up : ∀ b o, h'.get? b = some o → b ∉ fr → (∃ o', s.heap.get? b = some o') → h''.get? b = some o := fun b o ho hb ⟨o', ho'⟩ => k1 b o (hideAll_get _ ho fun q => by
        rcases List.mem_append.mp q with q | q
        · exact hb q
        · rw [hh b q] at ho'; cases ho')
      have baseUp : ∀ b o, Ω.base.get? b = some o → h''.get? b = some o := fun b o hb => up b o (R.keep b o hb) (fun q => by rw [(frAt b q).2.1] at hb; cases hb) ⟨o, I.keep b o hb⟩
      have x'' : Ext W c.F s.heap h'' := by
        refine ⟨fun b o hb e => ?_, fun b o hb hfb e => up b o (R.ext.keep b o hb hfb e) (fun q => (frAt b q).1.elim (fun z => hb (z ▸ I.wL)) hfb) ⟨o, e⟩⟩
        obtain ⟨o', ho', s1⟩ := R.ext.more b o hb e
        by_cases q : b ∈ fr
        · obtain ⟨sl, hsl⟩ := k4 b o' ho' ((frAt b q).2.2 o' ho')
          exact ⟨_, hsl, s1.trans ⟨sl, rfl⟩⟩
        · exact ⟨o', up b o' ho' q ⟨o, e⟩, s1⟩
      have I'' : Iv Ω c W rho0 h'' := J'.recs baseUp (fun b o ho hnf => k4 b o ho hnf) fun b hb => by
        obtain ⟨o, ho⟩ := J'.there b hb
        by_cases q : b ∈ fr
        · obtain ⟨sl, hsl⟩ := k4 b o ho ((frAt b q).2.2 o ho)
          exact ⟨_, hsl⟩
        · exact ⟨o, up b o ho q (I.there b hb)⟩
      obtain ⟨oe, vs, T, oT, ts, a1, a2, a3, a4, a5, a6, a7, a8, a9⟩ := k3
      have hT0 : s.heap.get? T = none := by
        cases q : s.heap.get? T with
        | none => rfl
        | some o =>
          -- T is no frame, and what was there is there
          by_cases w : W T
          · obtain ⟨o', ho'⟩ := J'.there T (.inl w)
            by_cases z : T ∈ fr
            · obtain ⟨sl, hsl⟩ := k4 T o' ho' ((frAt T z).2.2 o' ho')
              rw [a7] at hsl; cases hsl
              exact absurd a8 ((frAt T z).2.2 o' ho' _)
            · rw [show (hideAll h' (fr ++ hid)).get? T = some o' from hideAll_get _ ho' fun m => by
                rcases List.mem_append.mp m with m | m
                · exact z m
                · rw [hh T m] at q; cases q] at a5; cases a5
          · obtain ⟨o', ho', _⟩ := R.ext.more T o w q
            by_cases z : T ∈ fr
            · obtain ⟨sl, hsl⟩ := k4 T o' ho' ((frAt T z).2.2 o' ho')
              rw [a7] at hsl; cases hsl
              exact absurd a8 ((frAt T z).2.2 o' ho' _)
            · rw [show (hideAll h' (fr ++ hid)).get? T = some o' from hideAll_get _ ho' fun m => by
                rcases List.mem_append.mp m with m | m
                · exact z m
                · rw [hh T m] at q; cases q] at a5; cases a5
      rw [← hf]
      exact handle hbl hk hc hcs hl hQ ⟨I'', x'', oe, vs, T, oT, ts, a1, a2, a3, a4, a7, a8, (Array.getElem?_eq_some_iff.mp a9).1, hT0, baseNo T hT0⟩ I.there
    have FF : ∀ hid, h'.FunFrames (hideAll h' (fr ++ hid)) (c.fenv :: c.outer) := fun hid => funFrames_of (base := Ω.base) fun ev hev => ⟨R.frs ev hev, fun L hL => hideAll_none _ (List.mem_append_left _ (inF ev hev L hL))⟩
    have stay : ∀ hid, (hideAll h' (fr ++ hid)).StaysIn h' := fun hid b o hb => of_hideAll _ hb
    have gone : ∀ hid b, b ∈ hid → (hideAll h' (fr ++ hid)).get? b = none := fun hid b hb => hideAll_none _ (List.mem_append_right _ hb)
    rcases R.exc with ⟨ob, t, hob, hcls, hd⟩ | ⟨oe, vs, T, oT, ts, a1, a2, a3, a4, a5, a6⟩
    · exact note_first hfr (FF [e]) I.frL hob (stay [e]) (gone [e] e (.head _)) hd rfl fun h'' hl' => go [e] (fun b hb => by rw [List.mem_singleton.mp hb]; exact R.new) h'' (hcls ▸ hl')
    · refine note_next hfr (FF [e, T]) I.frL ⟨oe, vs, T, oT, ts, a1, a2, a3, a4, gone [e, T] T (.tail _ (.head _)), a6⟩ (stay [e, T]) (gone [e, T] e (.head _)) fun h'' hl' => go [e, T] (fun b hb => ?_) h'' hl'
      rcases List.mem_cons.mp hb with rfl | hb
      · exact R.new
      · rw [List.mem_singleton.mp hb]; exact a5
end
end Mine
end
section
open PySem PySem.W PyProof.Rows PySem.Calls
set_option Elab.async false
set_option linter.all false
set_option autoImplicit false
set_option maxRecDepth 100000
namespace Mine
noncomputable def octs (x : Int) (n : Nat) : List Int := (List.range n).map fun i => x / 256 ^ i % 256
theorem p256 (k : Nat) : ((256 : Int) ^ k) = ((256 ^ k : Nat) : Int) := by rw [Int.natCast_pow]; rfl
theorem low_octs (x : Int) (n : Nat) : (KTBy.low x n).map (fun c => ((c.toNat : Nat) : Int)) = octs x n := by
  unfold KTBy.low octs
  generalize ho : min n (Builtin.Int.intBits x / 8 + 1) = own
  have hle : own ≤ n := by omega
  have pos : (0 : Int) < 256 ^ own := by rw [p256]; exact Int.natCast_pos.mpr (Nat.pow_pos (by decide))
  refine List.ext_getElem (by simp; omega) fun i hi1 hi2 => ?_
  have hin : i < n := by simpa using hi2
  rw [List.getElem_map, List.getElem_map, List.getElem_range]
  by_cases hi : i < own
  · rw [List.getElem_append_left (by simpa using hi), List.getElem_map, List.getElem_range, KTBy.byte_at]
    have h0 : 0 ≤ x % 256 ^ own := Int.emod_nonneg _ (Int.ne_of_gt pos)
    obtain ⟨X, hX⟩ := Int.eq_ofNat_of_zero_le h0
    rw [hX, Int.toNat_natCast]
    show ((X / 256 ^ i % 256 : Nat) : Int) = _
    have e1 : ((X / 256 ^ i % 256 : Nat) : Int) = (x % 256 ^ own) / 256 ^ i % 256 := by rw [hX, p256]; rfl
    rw [e1]
    have hxe : x = 256 ^ own * (x / 256 ^ own) + x % 256 ^ own := (Int.mul_ediv_add_emod x (256 ^ own)).symm
    have hsp : (256 : Int) ^ own = 256 ^ i * (256 * 256 ^ (own - i - 1)) := by
      rw [← Int.mul_assoc, ← Int.pow_succ, ← Int.pow_add]; congr 1; omega
    have hne : (256 : Int) ^ i ≠ 0 := by rw [p256]; exact Int.ne_of_gt (Int.natCast_pos.mpr (Nat.pow_pos (by decide)))
    have : x / 256 ^ i = 256 * (256 ^ (own - i - 1) * (x / 256 ^ own)) + (x % 256 ^ own) / 256 ^ i := by
      conv => lhs; rw [hxe, hsp]
      rw [Int.mul_assoc, Int.add_comm, Int.add_mul_ediv_left _ _ hne, Int.add_comm, ← hsp, Int.mul_assoc]
    rw [this, Int.mul_add_emod_self_left]
  · rw [List.getElem_append_right (by simpa using Nat.le_of_not_lt hi), List.getElem_replicate]
    have hown : own = Builtin.Int.intBits x / 8 + 1 := by omega
    have hb : x.natAbs < 256 ^ i := by
      have h1 : Builtin.Int.intBits x ≤ 8 * i := by omega
      have h2 := intBits_le_iff.mp h1
      have e2 : (2 : Nat) ^ 8 = 256 := by decide
      rw [Nat.pow_mul, e2] at h2
      exact h2
    have hb' : (x.natAbs : Int) < 256 ^ i := by rw [p256]; exact Int.ofNat_lt.mpr hb
    by_cases hx : x < 0
    · rw [if_pos hx]
      have : x / 256 ^ i = -1 := by
        rw [Int.ediv_eq_iff_of_pos (by rw [p256]; exact Int.natCast_pos.mpr (Nat.pow_pos (by decide)))]
        constructor <;> omega
      rw [this]; rfl
    · rw [if_neg hx, Int.ediv_eq_zero_of_lt (by omega) (by omega)]; rfl
noncomputable def leN : List Int → Int
  | [] => 0
  | o :: r => o + 256 * leN r
noncomputable def leV (sg : Bool) (ns : List Int) : Int := if sg && decide (128 ≤ ns.getLastD 0) then leN ns - 256 ^ ns.length else leN ns
noncomputable def ToFit (sg : Bool) (x : Int) (k : Nat) : Prop := if sg then -(2 ^ (8 * k - 1) : Int) ≤ x ∧ x < 2 ^ (8 * k - 1) else 0 ≤ x ∧ x < 2 ^ (8 * k)
section
variable {prog : Program} {w : World} {M : Model} {A : Around} {E : Value → Shared → Prop} {s : Shared}
theorem args_tb (x l o sg : Value) : argsOk "int.to_bytes" ⟨[x, l, o], [(Str.ofString "signed", sg)]⟩ := by unfold argsOk; kernel_rfl
theorem bits_fit {x : Int} {k n : Nat} (h : x.natAbs < 2 ^ n) : Builtin.Int.intBits x ≤ n := intBits_le_iff.mpr h
theorem to_bytes_kw {x : Int} {k : Nat} {t u v : Tok} {sg : Bool} {Q : Value → Shared → Prop} (h1 : 1 ≤ k) (hk : k ≤ 8) (hf : ToFit sg x k) (h : ∀ (b : Array UInt8) t' k', KBw.bInts b = octs x k → Q (.bytes b t') { s with toks := k' }) :
    wpAny (model prog w) A (call (.builtin "int.to_bytes") [.int x t, .int (k : Int) u, .str (Str.ofString "little") v] [(Str.ofString "signed", .bool sg)]) Q E s := by
  refine wpAny_call_entry_kw KTBy.slot (typeIs_int s x t) KTBy.entry ?_ (args_tb _ _ _ _)
  show wpAny _ _ (Builtin.Int.intOfSelf (.int x t) >>= fun y => _) _ _ s
  refine wpAny_bind (wpAny_of_eq (a := x) rfl ?_)
  show wpAny _ _ (Builtin.Int.intBindNamed "to_bytes" ["length", "byteorder", "signed"] 0 2 [.int (k : Int) u, .str (Str.ofString "little") v] [(Str.ofString "signed", .bool sg)] >>= fun l => _) _ _ s
  refine wpAny_bind (wpAny_of_eq (a := [some (.int (k : Int) u), some (.str (Str.ofString "little") v), some (.bool sg)]) (by kernel_rfl) ?_)
  show wpAny _ _ (Builtin.Int.intIndex "int.to_bytes" (.int (k : Int) u) >>= fun n => _) _ _ s
  refine wpAny_bind (wpAny_of_eq (a := (k : Int)) rfl ?_)
  refine KTBy.if_not (by show (decide ((k : Int) < -(2 ^ 63 : Int)) || decide ((k : Int) ≥ 2 ^ 63)) = false; rw [decide_eq_false (show ¬ ((k : Int) < -(2 ^ 63 : Int)) by omega), decide_eq_false (show ¬ ((k : Int) ≥ 2 ^ 63) by omega)]; rfl) ?_
  refine wpAny_bind (wpAny_of_eq (a := Str.ofString "little") (by kernel_rfl) ?_)
  refine wpAny_bind (wpAny_truthy_bool ?_)
  refine wpAny_bind (wpAny_of_eq (a := true) (by kernel_rfl) ?_)
  refine wpAny_ite_false (decide_eq_false (show ¬ ((k : Int) < 0) by omega)) ?_
  refine wpAny_ite_false (decide_eq_false (show ¬ ((k : Int) > 2 ^ 63 - 1 - 33) by omega)) ?_
  refine wpAny_ite_false (decide_eq_false (show ¬ ((k : Int) > (sizeLine : Int)) by rw [sizeLine_eq]; omega)) ?_
  refine KTBy.if_not ?_ ?_
  · show (decide (x < 0) && !sg) = false
    cases sg
    · unfold ToFit at hf; rw [if_neg (by decide)] at hf
      rw [decide_eq_false (by omega)]; rfl
    · rw [Bool.not_true, Bool.and_false]
  refine KTBy.if_not ?_ ?_
  · show (_ && decide ((if sg = true then ((Builtin.Int.intBits (if x < 0 then -x - 1 else x) : Nat) : Int) + 1 else ((Builtin.Int.intBits x : Nat) : Int)) > 8 * (k : Int))) = false
    rw [decide_eq_false, Bool.and_false]
    unfold ToFit at hf
    have pw : ∀ n : Nat, ((2 : Int) ^ n) = ((2 ^ n : Nat) : Int) := fun n => by rw [Int.natCast_pow]; rfl
    cases sg
    · rw [if_neg (by decide)] at hf ⊢
      have := bits_fit (x := x) (k := k) (n := 8 * k) (by rw [pw] at hf; omega)
      omega
    · rw [if_pos rfl] at hf ⊢
      rw [pw] at hf
      have : Builtin.Int.intBits (if x < 0 then -x - 1 else x) ≤ 8 * k - 1 := bits_fit (k := k) (by split <;> omega)
      omega
  refine wpAny_bind (wpAny_mkBytes (wpAny_pure ⟨_, rfl, h _ _ _ ?_⟩) (by show (KTBy.low x (Int.toNat (k : Int))).length ≤ sizeLine; rw [KTBy.low_length, Int.toNat_natCast, sizeLine_eq]; omega))
  show (List.map (fun c : UInt8 => ((c.toNat : Nat) : Int)) (KTBy.low x (Int.toNat (k : Int)))) = octs x k
  rw [Int.toNat_natCast, low_octs]
end
end Mine
end
section
open PySem PySem.W PyProof.Rows PySem.Calls
set_option Elab.async false
set_option linter.all false
set_option autoImplicit false
set_option maxRecDepth 100000
namespace Mine
theorem IsBarr.type {s : Shared} {a : Addr} {b : Array UInt8} (x : IsBarr s.heap a b) : s.TypeIs (.ref a) "bytearray" := by
  obtain ⟨o, ho, hc, _⟩ := x; exact ⟨o, ho, hc⟩
theorem ba_no_bytes : typeLookup (.type "bytearray") "__bytes__" = pure none := by rw [typeLookup_type, builtinLookup_eq_fast]; kernel_rfl
theorem ba_buffer : typeLookup (.type "bytearray") "__buffer__" = pure (some (.builtin "bytearray.__buffer__")) := by rw [typeLookup_type, builtinLookup_eq_fast]; kernel_rfl
theorem ba_release : typeLookup (.type "bytearray") "__release_buffer__" = pure (some (.builtin "bytearray.__release_buffer__")) := by rw [typeLookup_type, builtinLookup_eq_fast]; kernel_rfl
theorem ba_len : typeLookup (.type "bytearray") "__len__" = pure (some (.builtin "bytearray.__len__")) := by rw [typeLookup_type, builtinLookup_eq_fast]; kernel_rfl
theorem leN_fold : ∀ (ns : List Int), ns.reverse.foldl (fun a k => a * 256 + k) 0 = leN ns := by
  intro ns
  have : ∀ (ns : List Int), ns.foldr (fun k a => a * 256 + k) 0 = leN ns := by
    intro ns
    induction ns with
    | nil => rfl
    | cons o r ih => rw [List.foldr_cons, ih]; show _ = o + 256 * leN r; omega
  rw [List.foldl_reverse]; exact this ns
theorem leN_bound : ∀ (ns : List Int), (∀ o ∈ ns, 0 ≤ o ∧ o < 256) → 0 ≤ leN ns ∧ leN ns < 256 ^ ns.length
  | [], _ => by constructor <;> decide
  | o :: r, h => by
    obtain ⟨h1, h2⟩ := leN_bound r fun x hx => h x (.tail _ hx)
    obtain ⟨h3, h4⟩ := h o (.head _)
    show 0 ≤ o + 256 * leN r ∧ o + 256 * leN r < 256 ^ (r.length + 1)
    rw [Int.pow_succ]
    constructor <;> omega
theorem leV_small (sg : Bool) (ns : List Int) (hl : ns.length ≤ 8) (h : ∀ o ∈ ns, 0 ≤ o ∧ o < 256) : (leV sg ns).natAbs < 2 ^ 70 := by
  obtain ⟨h1, h2⟩ := leN_bound ns h
  have hp : (256 : Int) ^ ns.length ≤ 256 ^ 8 := by
    rw [p256, p256]; exact Int.ofNat_le.mpr (Nat.pow_le_pow_right (by decide) hl)
  have h8 : (256 : Int) ^ 8 = 2 ^ 64 := by decide
  have h9 : (0 : Int) ≤ 256 ^ ns.length := by rw [p256]; exact Int.natCast_nonneg _
  unfold leV
  split <;> omega
section
variable {prog : Program} {w : World} {M : Model} {A : Around} {E : Value → Shared → Prop} {s : Shared}
theorem grownI {n : Int} {Q : Value → Shared → Prop} (hn : n.natAbs < 2 ^ 70) (h : Q (.int n s.toks) { s with toks := s.toks + 1 }) : wpAny M A (mkIntGrown n) Q E s := by
  unfold mkIntGrown
  have hl : ¬ (n.natAbs.log2 ≥ bitsLine) := by
    have hb : bitsLine = 134217728 := by first | rfl | decide
    by_cases hz : n.natAbs = 0
    · rw [hz, hb]; decide
    · have h1 := (Nat.log2_lt hz).mpr hn
      omega
  rw [if_neg hl]
  exact wpAny_mkInt h
theorem tree_from {a : Addr} {b : Array UInt8} {u : Tok} {sg : Bool} {P : Fin → Shared → Prop} (hb : IsBarr s.heap a b) (h1 : 1 ≤ b.size) (hl : b.size ≤ 8) (h : P (.done (.ret (.int (leV sg (KBw.bInts b)) s.toks))) { s with toks := s.toks + 1 }) :
    wpAny M A (Builtin.«int.from_bytes» ⟨[.type "int", .ref a, .str (Str.ofString "little") u], [(Str.ofString "signed", .bool sg)]⟩) P E s := by
  obtain ⟨o, ho, hc, hdi, n, hd⟩ := id hb
  have hT := hb.type
  unfold Builtin.«int.from_bytes»
  refine wpAny_bind (wpAny_of_eq (a := true) KFB.type_int ?_)
  refine KFB.if_not rfl ?_
  refine wpAny_bind (wpAny_of_eq (a := true) F.conv_sub_int ?_)
  refine KFB.if_not rfl ?_
  refine wpAny_bind (wpAny_of_eq (a := [some (.ref a), some (.str (Str.ofString "little") u), some (.bool sg)]) (by kernel_rfl) ?_)
  refine wpAny_bind (wpAny_of_eq (a := Str.ofString "little") (by kernel_rfl) ?_)
  refine wpAny_bind (wpAny_truthy_bool ?_)
  refine wpAny_bind (wpAny_of_eq (a := true) (by kernel_rfl) ?_)
  refine wpAny_bind ?_
  show wpAny _ _ (specialOf (.ref a) "__bytes__" >>= fun r => _) _ _ _
  refine wpAny_bind (wpAny_specialOf hT ba_no_bytes ?_)
  refine wpAny_bind ?_
  show wpAny _ _ (load a >>= fun o => _) _ _ _
  refine wpAny_bind (wpAny_load ho ?_)
  rw [hd]
  refine wpAny_pure ?_
  refine KFB.if_so rfl ?_
  refine wpAny_bind (wpAny_specialOf hT ba_buffer ?_)
  refine wpAny_bind (wpAny_specialOf hT ba_release ?_)
  refine wpAny_bind (wpAny_isInstance hT F.isi_self_bytearray ?_)
  refine KFB.if_not rfl ?_
  refine wpAny_bind ?_
  show wpAny _ _ (load a >>= fun o => _) _ _ _
  refine wpAny_bind (wpAny_load ho ?_)
  rw [hd]
  refine wpAny_pure ?_
  refine wpAny_pure ?_
  have e1 : List.foldl (fun (acc : Int) (b : UInt8) => acc * 256 + (b.toNat : Int)) ((0 : Nat) : Int) b.toList.reverse = leN (KBw.bInts b) := by
    have hv := KFB.foldI_eq b.toList.reverse 0
    rw [hv, KFB.fold_cast, List.map_reverse]
    exact leN_fold _
  have e2 : (b.toList.reverse.head?.any fun x => decide (x ≥ 128)) = decide (128 ≤ (KBw.bInts b).getLastD 0) := by
    rw [List.head?_reverse]
    have hne : b.toList ≠ [] := by intro q; have := congrArg List.length q; simp at this; rw [this] at h1; simp at h1
    rw [List.getLast?_eq_some_getLast hne]
    have : (KBw.bInts b).getLastD 0 = ((b.toList.getLast hne).toNat : Int) := by
      show (b.toList.map _).getLastD 0 = _
      rw [List.getLastD_eq_getLast?, List.getLast?_map, List.getLast?_eq_some_getLast hne]; rfl
    rw [this]
    show decide (b.toList.getLast hne ≥ 128) = _
    have : (b.toList.getLast hne ≥ 128) ↔ (128 : Int) ≤ ((b.toList.getLast hne).toNat : Int) := by
      show (128 : UInt8) ≤ _ ↔ _
      rw [UInt8.le_iff_toNat_le]
      show 128 ≤ _ ↔ _
      omega
    exact decide_eq_decide.mpr this
  have e3 : b.toList.reverse.length = (KBw.bInts b).length := by
    show _ = (b.toList.map _).length
    rw [List.length_reverse, List.length_map]
  have e4 : (if (sg && (b.toList.reverse.head?.any fun x => decide (x ≥ 128))) = true then List.foldl (fun (acc : Int) (b : UInt8) => acc * 256 + (b.toNat : Int)) ((0 : Nat) : Int) b.toList.reverse - 256 ^ b.toList.reverse.length else List.foldl (fun (acc : Int) (b : UInt8) => acc * 256 + (b.toNat : Int)) ((0 : Nat) : Int) b.toList.reverse) = leV sg (KBw.bInts b) := by
    rw [e1, e2, e3]; rfl
  show wpAny _ _ (mkIntGrown (if (sg && (b.toList.reverse.head?.any fun x => decide (x ≥ 128))) = true then List.foldl (fun (acc : Int) (b : UInt8) => acc * 256 + (b.toNat : Int)) ((0 : Nat) : Int) b.toList.reverse - 256 ^ b.toList.reverse.length else List.foldl (fun (acc : Int) (b : UInt8) => acc * 256 + (b.toNat : Int)) ((0 : Nat) : Int) b.toList.reverse) >>= fun v => _) _ _ _
  rw [e4]
  refine wpAny_bind (grownI ?_ ?_)
  · exact leV_small _ _ (by show (b.toList.map _).length ≤ 8; rw [List.length_map]; exact hl) fun o ho => by
      obtain ⟨c, _, rfl⟩ := List.mem_map.mp ho
      have := c.toNat_lt
      constructor <;> omega
  refine KFB.if_so (by decide +kernel) ?_
  exact wpAny_pure h
end
end Mine
end
section
open PySem PySem.W PyProof.Rows PySem.Calls
set_option Elab.async false
set_option linter.all false
set_option autoImplicit false
set_option maxRecDepth 100000
namespace Mine
section
variable {prog : Program} {w : World} {M : Model} {A : Around} {E : Value → Shared → Prop} {s : Shared}
theorem callWith_bound_kw {pos : Pos} {u : Addr} {first : List Value} {args : List (Bool × Sem Value)} {keywords : List (Option Str × Sem Value)} {Q : Value → Shared → Prop} (hplain : args.any (·.1) = false) (hkw : keywords.any (·.1.isNone) = false)
    (h : wpAny M A (evalArgs (.ref u) true args keywords) (fun x s₁ => KFB.StandsAt u s₁.heap ∧ wpAny M A (call (.ref u) (first ++ x.pos) x.kw) Q E s₁) E s) : wpAny M A (callWith pos (.ref u) first args keywords) Q E s := by
  unfold callWith
  refine wpAny_bind (wpAny_holding (wpAny_mono h (fun x s₁ h₁ => wpAny_bind (wpAny_standAt ?_)) fun _ _ x => x))
  obtain ⟨ho, hcall⟩ := h₁
  simp only [hplain, hkw, Bool.or_false]
  refine wpAny_bind (m := keeperOf (.ref u)) ?_
  unfold keeperOf
  refine wpAny_bind (wpAny_load ho ?_)
  simp only [KFB.bound, show (Value.type "builtin_function_or_method" != Value.type "method") = true by decide, show (Value.type "builtin_function_or_method" == Value.type "builtin_function_or_method" || Value.type "builtin_function_or_method" == Value.type "method-wrapper") = true by decide, if_true]
  refine wpAny_pure ?_
  exact wpAny_bind (wpAny_mono hcall (fun r s₂ hr => wpAny_bind (wpAny_holding (wpAny_point (wpAny_pure hr)))) fun _ _ x => x)
theorem check_from {a : Addr} {u : Tok} {sg : Bool} : checkBoundCall "int.from_bytes" ⟨[.type "int", .ref a, .str (Str.ofString "little") u], [(Str.ofString "signed", .bool sg)]⟩ = pure () := by first | kernel_rfl | rfl
theorem call_from {x a : Addr} {b : Array UInt8} {u : Tok} {sg : Bool} {Q : Value → Shared → Prop} (ho : KFB.StandsAt x s.heap) (hb : IsBarr s.heap a b) (h1 : 1 ≤ b.size) (hl : b.size ≤ 8)
    (h : Q (.int (leV sg (KBw.bInts b)) s.toks) { s with toks := s.toks + 1 }) : wpAny (model prog w) A (call (.ref x) [.ref a, .str (Str.ofString "little") u] [(Str.ofString "signed", .bool sg)]) Q E s := by
  refine wpAny_call (codeAny_of_tree ?_)
  show wpAny _ A.in1 (callAny (.ref x) ⟨[.ref a, .str (Str.ofString "little") u], [(Str.ofString "signed", .bool sg)]⟩) _ _ s
  simp only [callAny]
  refine wpAny_bind (wpAny_load ho ?_)
  simp only [KFB.bound, show (Value.type "builtin_function_or_method" == Value.type "method" || Value.type "builtin_function_or_method" == Value.type "builtin_function_or_method" || Value.type "builtin_function_or_method" == Value.type "method-wrapper") = true by decide, if_true]
  refine KFB.if_so (by decide) ?_
  refine wpAny_bind (wpAny_of_eq (a := ()) check_from ?_)
  refine wpAny_bind (wpAny_pure (wpAny_pure ?_))
  exact ⟨KFB.quiet_fb, codeAny_builtin KFB.entry_fb (tree_from hb h1 hl h)⟩
theorem ba_len_slot : Slot "bytearray" "__len__" "bytearray.__len__" :=
  .of (owner := "bytearray") (n := "__len__") ba_len (by decide +kernel) (by decide +kernel) (by decide +kernel) (by first | exact .inl (by decide +kernel) | exact .inr (by decide +kernel)) F.isi_self_bytearray
theorem ba_len_entry : entryFor table "bytearray.__len__" = some Builtin.«bytearray.__len__» := entryFor_of_tree (by kernel_rfl)
theorem ba_len_args (a : Value) : argsOk "bytearray.__len__" ⟨[a], []⟩ := by unfold argsOk; kernel_rfl
end
section
variable {Ω : Wd} {n : Nat} {c : Ctx}
noncomputable def tToBytes (sg : Bool) (t tl : TE) : TE := fun ρ Q E => t ρ (fun d => ∃ x, d = .int x ∧ tl ρ (fun l => ∃ k : Nat, l = .int k ∧ 1 ≤ k ∧ k ≤ 8 ∧ ToFit sg x k ∧ Q (.bytes (octs x k))) E) E
theorem ev_toBytes {o e : Expr} {ap pos p1 p2 kp : Pos} {k1 k2 : Nat} {sg : Bool} {t tl : TE} {pld : Sem Bool} (ho : EV Ω n c o t) (hl : EV Ω n c e tl)
    (he : eval (.Call (.Attribute o "to_bytes" ap) [e, .Constant (.str (tx 17)) k1 p1] [⟨some (Str.ofString "signed"), .Constant (.bool sg) k2 p2, kp⟩] pos) c.env = (do
      let ov ← eval o c.env
      standAt ap.atName
      let (f, first) ← holding [ov] (getMethod ov "to_bytes" pld)
      callWith pos f first (backTo pos (starEach [e, .Constant (.str (tx 17)) k1 p1] c.env)) (backToKw pos (keywordEach [⟨some (Str.ofString "signed"), .Constant (.bool sg) k2 p2, kp⟩] c.env))) := by with_unfolding_all rfl)
    (hst : starEach [e, .Constant (.str (tx 17)) k1 p1] c.env = (false, eval e c.env) :: (false, eval (.Constant (.str (tx 17)) k1 p1) c.env) :: starEach [] c.env := by with_unfolding_all rfl) :
    EV Ω n c (.Call (.Attribute o "to_bytes" ap) [e, .Constant (.str (tx 17)) k1 p1] [⟨some (Str.ofString "signed"), .Constant (.bool sg) k2 p2, kp⟩] pos) (tToBytes sg t tl) := by
  intro A W ρ Q E s a I hq
  rw [he]
  refine wpAny_bind (pb (.refl I) (ho A W ρ _ E s a I hq) fun v s₁ b₁ _ ⟨d, rd, x, hx, hd⟩ => wpAny_bind (wpAny_standAt (wpAny_bind (wpAny_holding ?_))))
  subst hx
  unfold Rep at rd
  obtain ⟨t', rfl⟩ := rd
  refine KTBy.method ?_
  refine callWith_builtin_kwB (by rw [hst]; rfl) (by rfl) ?_
  rw [hst]
  refine evalArgs_kwB (by rfl) (spliced_cons (pb b₁ (hl A W ρ _ E s₁ a b₁.iv hd) fun v s₂ b₂ _ ⟨l, rl, k, hk, h1, h8, hfit, hQ⟩ => spliced_cons (pb b₂ (ev_str (n := n) 17 (by decide) k1 p1 A W ρ (fun d => d = .str 17) E s₂ a b₂.iv rfl) fun v₃ s₃ b₃ _ ⟨d₃, r₃, h₃⟩ => spliced_nil ?_)))
  subst hk h₃
  unfold Rep at rl r₃
  obtain ⟨u, rfl⟩ := rl
  obtain ⟨_, u₃, rfl⟩ := r₃
  refine kws_cons ?_
  rw [eval_Constant]
  refine wpAny_pure (kws_nil ?_)
  refine to_bytes_kw h1 h8 hfit fun b t2 k' hb => ?_
  exact pl (b₃.tok _) ⟨.bytes (octs x k), by unfold Rep; exact ⟨b, t2, rfl, hb⟩, hQ⟩
noncomputable def tFromBytes (sg : Bool) (t : TE) : TE := fun ρ Q E => t ρ (fun d => ∃ ns, d = .barr ns ∧ 1 ≤ ns.length ∧ ns.length ≤ 8 ∧ Q (.int (leV sg ns))) E
theorem ev_fromBytes {e : Expr} {np ap pos p1 p2 kp : Pos} {k1 k2 : Nat} {sg : Bool} {t : TE} {pld : Sem Bool} (hx : c.env.kindOf "int" = some .globalImplicit) (hK : nsIn Ω.K mainGlobals "int" = some none)
    (hC : findCls Ω.K (.type "int") (.type "type") (Str.ofString "from_bytes") = some (.get (.builtin "classmethod_descriptor.__get__") (.builtin "int.from_bytes") .none (.type "int"))) (h : EV Ω n c e t)
    (he : eval (.Call (.Attribute (.Name "int" np) "from_bytes" ap) [e, .Constant (.str (tx 17)) k1 p1] [⟨some (Str.ofString "signed"), .Constant (.bool sg) k2 p2, kp⟩] pos) c.env = (do
      let ov ← eval (.Name "int" np) c.env
      standAt ap.atName
      let (f, first) ← holding [ov] (getMethod ov "from_bytes" pld)
      callWith pos f first (backTo pos (starEach [e, .Constant (.str (tx 17)) k1 p1] c.env)) (backToKw pos (keywordEach [⟨some (Str.ofString "signed"), .Constant (.bool sg) k2 p2, kp⟩] c.env))) := by with_unfolding_all rfl)
    (hst : starEach [e, .Constant (.str (tx 17)) k1 p1] c.env = (false, eval e c.env) :: (false, eval (.Constant (.str (tx 17)) k1 p1) c.env) :: starEach [] c.env := by with_unfolding_all rfl) :
    EV Ω n c (.Call (.Attribute (.Name "int" np) "from_bytes" ap) [e, .Constant (.str (tx 17)) k1 p1] [⟨some (Str.ofString "signed"), .Constant (.bool sg) k2 p2, kp⟩] pos) (tFromBytes sg t) := by
  intro A W ρ Q E s a I hq
  rw [he]
  refine wpAny_bind (blt_name I hx hK (v := .type "int") (by decide +kernel) (by decide +kernel) (by decide +kernel) (wpAny_bind (wpAny_standAt (wpAny_bind (wpAny_holding ?_)))))
  obtain ⟨m, news, F, N, back, full⟩ := I.fr
  refine KFB.getm F N Ω.X hC fun x h' F' N' hlt => ?_
  have xx := back h' F' fun p hp => N' p (.tail _ hp)
  have hxN := N' (x, KFB.bound) (.head _)
  have nx : s.heap.get? x = none := I.newD full hxN.2.1 hxN.2.2 hlt
  have b₁ : Bk Ω c W ρ s { s with heap := h', toks := s.toks + 1 } := (Bk.refl I).step _ xx
  have xL : ¬ x = c.L := hxN.2.1
  have xF : ¬ c.F x := fun f => I.fresh nx (.inl (I.FO x f))
  refine callWith_bound_kw (by rw [hst]; rfl) (by rfl) ?_
  rw [hst]
  refine evalArgs_kwB (by rfl) (spliced_cons (pb b₁ (h A W ρ _ E _ a b₁.iv hq) fun v s₂ b₂ x₂ ⟨d, rd, ns, hd, h1, h8, hQ⟩ => spliced_cons (pb b₂ (ev_str (n := n) 17 (by decide) k1 p1 A W ρ (fun d => d = .str 17) E s₂ a b₂.iv rfl) fun v₃ s₃ b₃ x₃ ⟨d₃, r₃, h₃⟩ => spliced_nil ?_)))
  subst hd h₃
  have rd := rd.eext x₃ (.inr I.wL)
  unfold Rep at rd r₃
  obtain ⟨_, u₃, rfl⟩ := r₃
  obtain ⟨ad, b, rfl, hb, _, hbi⟩ := rd
  have xb : s₃.heap.get? x = some KFB.bound := x₃.ext.keep x _ xL xF (x₂.ext.keep x _ xL xF hxN.1)
  refine kws_cons ?_
  rw [eval_Constant]
  refine wpAny_pure (kws_nil ⟨?_, ?_⟩)
  · exact xb
  have hsz : b.size = ns.length := by rw [← KBw.ints_length, hbi]
  refine call_from xb hb (by omega) (by omega) ?_
  exact pl (b₃.tok _) ⟨.int (leV sg ns), by unfold Rep; exact ⟨_, by rw [hbi]⟩, hQ⟩
noncomputable def fLenB : FT := fun ds Q _ => ∃ ns, ds = [.barr ns] ∧ ns.length < 2 ^ 20 ∧ Q (.int ns.length)
theorem b_lenB : BSpec Ω n (.builtin "len") fLenB := by
  intro c A W ρ Q E s ds vs ha I r ⟨ns, hds, hsz, hq⟩
  subst hds
  obtain ⟨v, rfl, r1⟩ := reps1 r
  unfold Rep at r1
  obtain ⟨ad, b, rfl, hb, _, hbi⟩ := r1
  have hlen : b.size = ns.length := by rw [← KBw.ints_length, hbi]
  obtain ⟨o, ho, _, _, k, hd⟩ := id hb
  refine call_function_entry kind_len plain_len entry_len (args_len1 _) ?_
  unfold Builtin.«len»
  refine wpAny_bind (m := oneArg "len" _) (wpAny_pure ?_)
  refine wpAny_bind (m := callSpecial? (.ref ad) (Str.ofString "__len__")) (wpAny_callSpecial?_slot (name := Str.ofString "__len__") hb.type ba_len_slot
    (wpAny_call_entry ba_len_slot hb.type ba_len_entry ?_ (ba_len_args _)))
  show wpAny _ _ (do retInt (← Builtin.Bytes.payload (.ref ad)).size) _ _ s
  refine wpAny_bind ?_
  unfold Builtin.Bytes.payload Builtin.Bytes.payload?
  refine wpAny_bind (wpAny_bind (wpAny_load ho ?_))
  rw [hd]
  refine wpAny_pure (wpAny_pure (wpAny_bind (wpAny_mkInt (wpAny_pure ⟨_, rfl, ?_⟩))))
  refine wpAny_bind (wpAny_holding (wpAny_pure ?_))
  refine wpAny_bind (wpAny_letGo ?_)
  show wpAny _ _ (if ((b.size : Nat) : Int) < 0 then _ else _) _ _ _
  rw [if_neg (by omega)]
  show wpAny _ _ (if ((b.size : Nat) : Int) ≥ 2 ^ 63 then _ else _) _ _ _
  rw [if_neg (by omega)]
  exact wpAny_bind (wpAny_mkInt (wpAny_pure ⟨_, rfl, pl ((Bk.refl I).tok _) ⟨.int ns.length, by unfold Rep; exact ⟨_, by rw [hlen]⟩, hq⟩⟩))
end
end Mine
end
section
open PySem PySem.W PyProof.Rows PySem.Calls
set_option Elab.async false
set_option linter.all false
set_option autoImplicit false
set_option maxRecDepth 100000
namespace Mine
theorem bai_next : typeLookup (.type "bytearray_iterator") "__next__" = pure (some (.builtin "bytearray_iterator.__next__")) := by rw [typeLookup_type, builtinLookup_eq_fast]; kernel_rfl
theorem bai_next_slot : Slot "bytearray_iterator" "__next__" "bytearray_iterator.__next__" :=
  .of (owner := "bytearray_iterator") (n := "__next__") bai_next (by decide +kernel) (by decide +kernel) (by decide +kernel) (by first | exact .inl (by decide +kernel) | exact .inr (by decide +kernel)) (by rw [isSubtype_type]; kernel_rfl)
theorem bai_next_entry : entryFor table "bytearray_iterator.__next__" = some Builtin.«bytearray_iterator.__next__» := entryFor_of_tree (by kernel_rfl)
theorem bai_next_args (a : Value) : argsOk "bytearray_iterator.__next__" ⟨[a], []⟩ := by unfold argsOk; kernel_rfl
theorem ba_iter : typeLookup (.type "bytearray") "__iter__" = pure (some (.builtin "bytearray.__iter__")) := by rw [typeLookup_type, builtinLookup_eq_fast]; kernel_rfl
theorem ba_iter_slot : Slot "bytearray" "__iter__" "bytearray.__iter__" :=
  .of (owner := "bytearray") (n := "__iter__") ba_iter (by decide +kernel) (by decide +kernel) (by decide +kernel) (by first | exact .inl (by decide +kernel) | exact .inr (by decide +kernel)) F.isi_self_bytearray
theorem ba_iter_entry : entryFor table "bytearray.__iter__" = some Builtin.«bytearray.__iter__» := entryFor_of_tree (by kernel_rfl)
theorem ba_iter_args (a : Value) : argsOk "bytearray.__iter__" ⟨[a], []⟩ := by unfold argsOk; kernel_rfl
theorem bai_iter : typeLookup (.type "bytearray_iterator") "__iter__" = pure (some (.builtin "bytearray_iterator.__iter__")) := by rw [typeLookup_type, builtinLookup_eq_fast]; kernel_rfl
theorem bai_iter_slot : Slot "bytearray_iterator" "__iter__" "bytearray_iterator.__iter__" :=
  .of (owner := "bytearray_iterator") (n := "__iter__") bai_iter (by decide +kernel) (by decide +kernel) (by decide +kernel) (by first | exact .inl (by decide +kernel) | exact .inr (by decide +kernel)) (by rw [isSubtype_type]; kernel_rfl)
theorem bai_iter_entry : entryFor table "bytearray_iterator.__iter__" = some Builtin.«dict_keyiterator.__iter__» :=
  entryFor_alias (id' := "dict_keyiterator.__iter__") (by kernel_rfl) (by first | rfl | decide +kernel | (unfold String.splitOn; simp +decide [String.splitOnAux])) (by decide +kernel) (by kernel_rfl)
theorem bai_iter_args (a : Value) : argsOk "bytearray_iterator.__iter__" ⟨[a], []⟩ := by unfold argsOk; kernel_rfl
noncomputable def IsBai (h : Heap) (I a : Addr) (i : Nat) : Prop := ∃ o, h.get? I = some o ∧ o.cls = .type "bytearray_iterator" ∧ o.data = .fields #[.ref a, .int i 0]
theorem IsBai.type {s : Shared} {I a : Addr} {i : Nat} (x : IsBai s.heap I a i) : s.TypeIs (.ref I) "bytearray_iterator" := by obtain ⟨o, ho, hc, _⟩ := x; exact ⟨o, ho, hc⟩
section
variable {prog : Program} {w : World} {M : Model} {A : Around} {E : Value → Shared → Prop} {s : Shared}
theorem next_bai {I a : Addr} {i : Nat} {b : Array UInt8} {x : UInt8} {Q : Option Value → Shared → Prop} (hit : IsBai s.heap I a i) (hb : IsBarr s.heap a b) (hx : b[i]? = some x)
    (hQ : ∀ h', IsBai h' I a (i + 1) → Heap.SameBut I s.heap h' → Q (some (.int (x.toNat : Int) s.toks)) { s with heap := h', toks := s.toks + 1 }) : wpAny (model prog w) A (pyNext (.ref I)) Q E s := by
  obtain ⟨o, ho, hc, hd⟩ := id hit
  obtain ⟨ol, hol, _, _, nl, hdl⟩ := hb
  unfold pyNext
  refine wpAny_bind (wpAny_attempt (wpAny_callSpecial?_slot (name := Str.ofString "__next__") hit.type bai_next_slot
    (wpAny_call_entry bai_next_slot hit.type bai_next_entry ?_ (bai_next_args _))))
  show wpAny _ _ (field (.ref I) 0 >>= _) _ _ s
  refine wpAny_bind (wpAny_field ho hd (x := .ref a) rfl ?_)
  show wpAny _ _ (load a >>= _) _ _ s
  refine wpAny_bind (wpAny_load hol ?_)
  rw [hdl]
  show wpAny _ _ (field (.ref I) 1 >>= _) _ _ s
  refine wpAny_bind (wpAny_field ho hd (x := .int i 0) rfl ?_)
  show wpAny _ _ (match b[Int.toNat ((i : Nat) : Int)]? with | some c => _ | none => _) _ _ s
  simp only [Int.toNat_natCast, hx]
  refine wpAny_bind (wpAny_setField ho hd (by simp) (wpAny_bind (wpAny_mkInt (wpAny_pure ⟨_, rfl, wpAny_pure (hQ _ ?_ (Heap.SameBut.update ..))⟩))))
  exact ⟨_, Heap.get?_update_self _ ho (Obj.isFreed_of_fields (Obj.data_mapFields hd _)), (Obj.cls_mapFields ..).trans hc, by
    rw [Obj.data_mapFields hd]; simp [rawInt]⟩
theorem next_bai_end {I a : Addr} {i : Nat} {b : Array UInt8} {Q : Option Value → Shared → Prop} (hh : A.handled = none) (hit : IsBai s.heap I a i) (hb : IsBarr s.heap a b) (hx : b[i]? = none)
    (hQ : ∀ h', Heap.ExtBut I s.heap h' → Q none { s with heap := h' }) : wpAny (model prog w) A (pyNext (.ref I)) Q E s := by
  obtain ⟨o, ho, hc, hd⟩ := id hit
  obtain ⟨ol, hol, _, _, nl, hdl⟩ := hb
  unfold pyNext
  refine wpAny_bind (wpAny_attempt (wpAny_callSpecial?_slot (name := Str.ofString "__next__") hit.type bai_next_slot
    (wpAny_call_entry bai_next_slot hit.type bai_next_entry ?_ (bai_next_args _))))
  show wpAny _ _ (field (.ref I) 0 >>= _) _ _ s
  refine wpAny_bind (wpAny_field ho hd (x := .ref a) rfl ?_)
  show wpAny _ _ (load a >>= _) _ _ s
  refine wpAny_bind (wpAny_load hol ?_)
  rw [hdl]
  show wpAny _ _ (field (.ref I) 1 >>= _) _ _ s
  refine wpAny_bind (wpAny_field ho hd (x := .int i 0) rfl ?_)
  show wpAny _ _ (match b[Int.toNat ((i : Nat) : Int)]? with | some c => _ | none => _) _ _ s
  simp only [Int.toNat_natCast, hx]
  refine wpAny_bind (wpAny_rule (wpAny_bind (wpAny_setField ho hd (by simp) (wpAny_bind (wpAny_letGo ?_)))))
  show wpAny _ _ (newExc (.type "StopIteration") [] >>= _) _ _ _
  refine wpAny_bind ?_
  simp only [newExc, newTuple]
  refine wpAny_bind (wpAny_newObj_type ?_ (by size_fits))
  refine wpAny_bind (m := firstArgMember _ _) (wpAny_of_eq (a := Value.none) (by first | rfl | (simp only [firstArgMember]; rfl)) ?_)
  refine wpAny_newObj_type ?_ (by size_fits)
  simp only [raiseNew]
  refine wpAny_bind (wpAny_handled ?_)
  rw [show A.in1.handled = none from hh]
  refine wpAny_bind (wpAny_pure (wpAny_throw ?_))
  refine wpAny_bind (wpAny_isInstance (T := "StopIteration") (b := true) ⟨_, Heap.get?_push_size _ rfl, rfl⟩ isSubtype_stop ?_)
  exact wpAny_pure (hQ _ (((Heap.SameBut.update ..).extBut.push _).push _))
theorem bai_walk (hh : A.handled = none) (I a : Addr) (hne : a ≠ I) (b : Array UInt8) :
    Walks prog w A I [I, a] [I] b.size (fun i v => ∃ x t, b[i]? = some x ∧ v = .int (x.toNat : Int) t) (fun i h => IsBai h I a i ∧ IsBarr h a b) where
  sub := fun b hb => by simp at hb; simp [hb]
  frame := fun _ _ _ st hk => ⟨by obtain ⟨o, ho, r⟩ := st.1; exact ⟨o, hk I (by simp) o ho, r⟩, by obtain ⟨o, ho, r⟩ := st.2; exact ⟨o, hk a (by simp) o ho, r⟩⟩
  item := fun i s Q E hi st hQ => by
    have hx : b[i]? = some b[i] := by simp [hi]
    refine next_bai st.1 st.2 hx fun h' hit' hs' => ?_
    refine hQ _ h' _ ⟨_, _, hx, rfl⟩ ⟨hit', ?_⟩ fun c o hc e => hs'.extBut c o (fun h => hc (by simp [h])) e
    obtain ⟨o, ho, r⟩ := st.2; exact ⟨o, (hs'.2 a hne).trans ho, r⟩
  done := fun s Q E st hQ => next_bai_end hh st.1 st.2 (by simp) fun h' he' => hQ h' s.toks fun b o hb e => he' b o (fun h => hb (by simp [h])) e
  self := fun _ s Q E st hQ => by
    refine wpAny_pyIter_slot st.1.type bai_iter_slot (wpAny_call_entry bai_iter_slot st.1.type bai_iter_entry ?_ (bai_iter_args _))
    show wpAny _ _ (ret _) _ _ s
    exact wpAny_pure ⟨_, rfl, "bytearray_iterator", _, st.1.type, bai_next_slot.lookup, hQ⟩
theorem ba_pyIter {a : Addr} {b : Array UInt8} {Q : Value → Shared → Prop} (hb : IsBarr s.heap a b)
    (hQ : Q (.ref s.heap.objs.size) { s with heap := s.heap.push { cls := .type "bytearray_iterator", data := .fields #[.ref a, .int 0 0] } }) : wpAny (model prog w) A (pyIter (.ref a)) Q E s := by
  refine wpAny_pyIter_slot hb.type ba_iter_slot (wpAny_call_entry ba_iter_slot hb.type ba_iter_entry ?_ (ba_iter_args _))
  show wpAny _ _ (do ret (← newFields "bytearray_iterator" [.ref a, rawInt 0])) _ _ s
  exact wpAny_bind (wpAny_newObj_type (wpAny_pure ⟨_, rfl, "bytearray_iterator", _, ⟨_, Heap.get?_push_size _ rfl, rfl⟩, bai_next_slot.lookup, hQ⟩))
theorem ba_hint {a : Addr} {b : Array UInt8} {Q : Bool → Shared → Prop} (hb : IsBarr s.heap a b) (h : Q false s) : wpAny (model prog w) A (Builtin.List.listLengthHint (.ref a)) Q E s := by
  unfold Builtin.List.listLengthHint
  refine wpAny_bind (wpAny_specialOf hb.type ba_len ?_)
  generalize hid : ("bytearray.__len__" : String) = id0
  wp_delta
  rw [show splitId id0 = some ("bytearray", "__len__") from by subst hid; decide +kernel]
  subst hid
  refine wpAny_bind (wpAny_isInstance (T := "bytearray") (b := true) hb.type F.isi_self_bytearray ?_)
  refine wpAny_ite_split (fun hab => absurd hab (by decide)) (fun _ => ?_)
  refine wpAny_ite_split (fun _ => ?_) (fun hab => absurd (by decide +kernel) hab)
  exact wpAny_bind (wpAny_typeOf hb.type (wpAny_pure h))
end
end Mine
end
section
open PySem PySem.W PyProof.Rows PySem.Calls
set_option Elab.async false
set_option linter.all false
set_option autoImplicit false
set_option maxRecDepth 100000
namespace Mine
section
variable {prog : Program} {w : World} {A : Around} {E : Value → Shared → Prop} {s : Shared}
theorem extend_barr {R : Result → Shared → Prop} {a : Addr} {b : Array UInt8} (hh : A.handled = none) (hb : IsBarr s.heap a b) (hlen : b.size ≤ 2 ^ 20) (S : Addr) (res : Value) (c₀ : Nat) (hS : s.heap.get? S = some { cls := .type "list", data := .seq #[] c₀ })
    (hR : ∀ h' tk acc' c', (∀ d o, d ≠ S → s.heap.get? d = some o → h'.get? d = some o) → h'.get? S = some { cls := .type "list", dict := none, data := .seq acc' c', slots := #[] } →
      ItemsOf (fun i v => ∃ x t, b[i]? = some x ∧ v = .int (x.toNat : Int) t) acc' b.size → R (.ok (.ret res)) { s with heap := h', toks := tk }) :
    wpAny (model prog w) A.in1 (Builtin.List.listExtendWith (.ref S) (.ref a) res)
      (fun fin s' => match fin with | .done f => R (.ok f) s' | .again c' => c'.quiet = true ∧ codeAny (model prog w) A c' R s') (fun e s' => R (.error e) s') s := by
  obtain ⟨oa, hoa, hca, _⟩ := id hb
  have hSa : S ≠ a := fun e => by rw [e, hoa] at hS; cases hS; exact absurd (show Value.type "list" = Value.type "bytearray" from hca) (by decide)
  have hSlt : S < s.heap.objs.size := Heap.lt_size hS
  have halt : a < s.heap.objs.size := Heap.lt_size hoa
  have hSI : S ≠ s.heap.objs.size := Nat.ne_of_lt hSlt
  have hSf : S ∉ [s.heap.objs.size, a] := fun hm => by
    rcases List.mem_cons.mp hm with e | hm
    · exact hSI e
    · exact hSa (List.mem_singleton.mp hm)
  have W := (bai_walk (prog := prog) (w := w) (A := A.in1) hh s.heap.objs.size a (Nat.ne_of_lt halt) b).toS
  have key : ∀ (h : Heap) (c₁ tk : Nat), IsBai h s.heap.objs.size a 0 ∧ IsBarr h a b → (∀ d o, d ≠ S → s.heap.get? d = some o → h.get? d = some o) →
      h.get? S = some { cls := .type "list", data := .seq #[] c₁ } → codeAny (model prog w) A (.builtin "list.extend.loop" ⟨[.ref S, .ref s.heap.objs.size, res], []⟩) R { s with heap := h, toks := tk } := by
    intro h c₁ tk hit hk hS₁
    refine codeAny_extend_loopS W (by rw [sizeLine_eq]; omega) S hSf res b.size 0 _ #[] c₁ rfl (Nat.zero_le _) hit hS₁ (ItemsOf.nil _) fun s' acc' c' hm hS' hacc => ?_
    rw [Moved.eq_with hm]
    refine hR s'.heap s'.toks acc' c' (fun d o hd e => hm.heap d o (fun hmem => ?_) (hk d o hd e)) hS' hacc
    rcases List.mem_cons.mp hmem with e' | hmem
    · exact hd e'
    · exact absurd (Heap.lt_size e) (by rw [List.mem_singleton.mp hmem]; exact Nat.lt_irrefl _)
  unfold Builtin.List.listExtendWith
  refine wpAny_bind (wpAny_typeOf (T := "bytearray") hb.type ?_)
  have h1 : Builtin.List.listSameRef (.ref S) (.ref a) = false := by simp [Builtin.List.listSameRef, hSa]
  have h2 : (Value.type "bytearray" == Value.type "list") = false := by decide
  have h3 : (Value.type "bytearray" == Value.type "tuple") = false := by decide
  simp only [h1, h2, h3, Bool.or_false, Bool.false_eq_true, if_false]
  refine wpAny_bind (ba_pyIter hb ?_)
  have hb₁ : IsBarr (s.heap.push { cls := .type "bytearray_iterator", data := .fields #[.ref a, .int 0 0] }) a b := by
    obtain ⟨o, ho, r⟩ := hb; exact ⟨o, Heap.get?_push_of_some _ ho, r⟩
  have hit₁ : IsBai (s.heap.push { cls := .type "bytearray_iterator", data := .fields #[.ref a, .int 0 0] }) s.heap.objs.size a 0 := ⟨_, Heap.get?_push_size _ rfl, rfl, rfl⟩
  refine wpAny_bind (wpAny_holding (ba_hint hb₁ ?_))
  have hS₁ := Heap.get?_push_of_some { cls := .type "bytearray_iterator", data := .fields #[.ref a, .int 0 0] } hS
  refine wpAny_ite_split (fun hab => absurd hab (by decide +kernel)) (fun _ => wpAny_pure ⟨plainId_quiet F.plain_extend_loop _, key _ c₀ _ ⟨hit₁, hb₁⟩ (fun d o _ e => Heap.get?_push_of_some _ e) hS₁⟩)
theorem list_init_barr {R : Result → Shared → Prop} {a : Addr} {b : Array UInt8} (hh : A.handled = none) (hb : IsBarr s.heap a b) (hlen : b.size ≤ 2 ^ 20) (S : Addr) (hS : s.heap.get? S = some { cls := .type "list", data := .seq #[] })
    (hR : ∀ h' tk acc' c', (∀ d o, d ≠ S → s.heap.get? d = some o → h'.get? d = some o) → h'.get? S = some { cls := .type "list", dict := none, data := .seq acc' c', slots := #[] } →
      ItemsOf (fun i v => ∃ x t, b[i]? = some x ∧ v = .int (x.toNat : Int) t) acc' b.size → R (.ok (.ret .none)) { s with heap := h', toks := tk }) :
    wpAny (model prog w) A.in1 (Builtin.«list.__init__» ⟨[.ref S, .ref a], []⟩)
      (fun fin s' => match fin with | .done f => R (.ok f) s' | .again c' => c'.quiet = true ∧ codeAny (model prog w) A c' R s') (fun e s' => R (.error e) s') s := by
  obtain ⟨oa, hoa, hca, hra⟩ := id hb
  have hSa : S ≠ a := fun e => by rw [e, hoa] at hS; cases hS; exact absurd (show Value.type "list" = Value.type "bytearray" from hca) (by decide)
  show wpAny _ _ (do let old ← Builtin.List.listItems (.ref S); Builtin.List.listUpdate (.ref S) (fun _ => #[]); letGo old.toList.reverse; Builtin.List.listExtendWith (.ref S) (.ref a) .none) _ _ s
  refine wpAny_bind ?_
  unfold Builtin.List.listItems
  refine wpAny_bind (wpAny_seqItems hS rfl (wpAny_pure ?_))
  show wpAny _ _ (updateSeq S (fun _ => #[]) >>= fun _ => letGo (#[] : Array Value).toList.reverse >>= fun _ => Builtin.List.listExtendWith (.ref S) (.ref a) .none) _ _ s
  refine wpAny_bind (wpAny_updateSeq hS rfl ?_)
  have hS₂ := Heap.get?_update_self (Obj.mapSeq (fun _ => (#[] : Array Value))) hS rfl
  have oth : ∀ d o, d ≠ S → s.heap.get? d = some o → (s.heap.update S (Obj.mapSeq (fun _ => (#[] : Array Value)))).get? d = some o :=
    fun d o hd e => (Heap.get?_update_other _ _ (Ne.symm hd)).trans e
  refine wpAny_bind (wpAny_letGo ?_)
  refine extend_barr hh ⟨oa, oth a _ (Ne.symm hSa) hoa, hca, hra⟩ hlen S .none _ hS₂ fun h' tk acc' c' hk hS' hacc => ?_
  exact hR h' tk acc' c' (fun d o hd e => hk d o hd (oth d o hd e)) hS' hacc
theorem call_list_barr {Q : Value → Shared → Prop} {a : Addr} {b : Array UInt8} (hh : A.handled = none) (hb : IsBarr s.heap a b) (hlen : b.size ≤ 2 ^ 20)
    (hQ : ∀ h' tk acc' c', (∀ d o, s.heap.get? d = some o → h'.get? d = some o) →
      h'.get? s.heap.objs.size = some { cls := .type "list", dict := none, data := .seq acc' c', slots := #[] } → ItemsOf (fun i v => ∃ x t, b[i]? = some x ∧ v = .int (x.toNat : Int) t) acc' b.size → Q (.ref s.heap.objs.size) { s with heap := h', toks := tk }) :
    wpAny (model prog w) A (call (.type "list") [.ref a]) Q E s := by
  refine callType_codes (Q₁ := fun obj s₁ => obj = .ref s.heap.objs.size ∧ s₁ = { s with heap := s.heap.push { cls := .type "list", data := .seq #[] } }) F.called_list (F.typeCall_list_1 _) F.entry_list_init
    (code_list_new _ ⟨rfl, rfl⟩) fun obj s₁ h₁ => ?_
  obtain ⟨rfl, rfl⟩ := h₁
  have hS : (s.heap.push { cls := .type "list", data := .seq #[] }).get? s.heap.objs.size = some { cls := .type "list", data := .seq #[] } := Heap.get?_push_size _ rfl
  have hb₁ : IsBarr (s.heap.push { cls := .type "list", data := .seq #[] }) a b := by
    obtain ⟨o, ho, r⟩ := hb; exact ⟨o, Heap.get?_push_of_some _ ho, r⟩
  refine ⟨⟨_, hS, rfl⟩, F.args_list_init_2 _ _, list_init_barr (A := A.in1) hh hb₁ hlen _ hS fun h' tk acc' c' hk hS' hacc => ?_⟩
  exact ⟨rfl, hQ h' tk acc' c' (fun d o e => hk d o (Nat.ne_of_lt (Heap.lt_size e)) (Heap.get?_push_of_some _ e)) hS' hacc⟩
end
section
variable {Ω : Wd} {n : Nat} {c : Ctx}
theorem items_go {O : Addr → Prop} {h : Heap} : ∀ (l : List UInt8) (vs : List Value), vs.length = l.length → (∀ (i : Nat) (v : Value), vs[i]? = some v → ∃ (x : UInt8) (t : Tok), l[i]? = some x ∧ v = Value.int (x.toNat : Int) t) → Reps O h (il (l.map fun c => ((c.toNat : Nat) : Int))) vs
  | [], vs, hl, _ => by
    cases vs with
    | nil => show Reps O h [] []; unfold Reps; rfl
    | cons v vs => cases hl
  | x :: l, vs, hl, hv => by
    cases vs with
    | nil => cases hl
    | cons v vs =>
      show Reps O h (.int (x.toNat : Int) :: il (l.map _)) _
      unfold Reps
      obtain ⟨y, t, hy, rfl⟩ := hv 0 v rfl
      simp at hy
      subst hy
      exact ⟨_, vs, rfl, by unfold Rep; exact ⟨t, rfl⟩, items_go l vs (by simpa using hl) fun i v hi => by simpa using hv (i + 1) v (by simpa using hi)⟩
theorem items_rep {O : Addr → Prop} {h : Heap} {b : Array UInt8} : ∀ (vs : List Value), (∀ (i : Nat) (v : Value), vs[i]? = some v → ∃ (x : UInt8) (t : Tok), b.toList[i]? = some x ∧ v = Value.int (x.toNat : Int) t) → ∀ l : List UInt8, vs.length = l.length → (∀ i, i < l.length → b.toList[i]? = l[i]?) → Reps O h (il (l.map fun c => ((c.toNat : Nat) : Int))) vs := by
  intro vs hv l hl hb
  refine items_go l vs hl fun i v hi => ?_
  obtain ⟨x, t, hx, hv'⟩ := hv i v hi
  have hlt : i < l.length := by rw [← hl]; exact (List.getElem?_eq_some_iff.mp hi).1
  exact ⟨x, t, (hb i hlt) ▸ hx, hv'⟩
noncomputable def fListB : FT := fun ds Q _ => ∃ ns, ds = [.barr ns] ∧ ns.length ≤ 4096 ∧ Q (.list (il ns))
theorem b_listB : BSpec Ω n (.type "list") fListB := by
  intro c A W ρ Q E s ds vs ha I r ⟨ns, hds, hsz, hq⟩
  subst hds
  obtain ⟨v, rfl, r1⟩ := reps1 r
  unfold Rep at r1
  obtain ⟨ad, b, rfl, hb, _, hbi⟩ := r1
  have hlen : b.size = ns.length := by rw [← KBw.ints_length, hbi]
  refine call_list_barr ha.hd hb (by omega) fun h' tk acc' c' hk hS hacc => ?_
  have x : EExt c s.heap h' := .of_keep hk
  refine pl (Bk.step (.refl I) tk x) ⟨.list (il ns), ?_, hq⟩
  unfold Rep
  refine ⟨_, acc'.toList, rfl, ⟨_, by rw [hS], rfl, c', by simp⟩, I.fresh (get_size _), ?_⟩
  rw [← hbi]
  refine items_rep acc'.toList (fun i v hi => ?_) b.toList ?_ fun i _ => rfl
  · obtain ⟨x, t, hx, hv⟩ := hacc.2 i v (by simpa using hi)
    exact ⟨x, t, by simpa using hx, hv⟩
  · have := hacc.1
    simp [this]
end
end Mine
end
section
open PySem PySem.W PyProof.Rows PySem.Calls
open Sem (wp)
set_option Elab.async false
set_option linter.all false
set_option autoImplicit false
set_option maxRecDepth 100000
namespace Mine
theorem exp_f : ∃ f : Value → Code × Pos → Bool, (∀ self, Builtin.Bytes.exported self = (stack >>= fun st => pure (st.any (f self)))) ∧
    (∀ self c p, (∀ id as, c ≠ .builtin id as) → f self (c, p) = false) ∧ (∀ self as p, f self (.builtin "bytearray.__init__" as, p) = false) ∧ (∀ self as p, f self (.builtin "type.__call__" as, p) = false) ∧ (∀ self as p, f self (.builtin "claim.caller" as, p) = false) := by
  refine ⟨_, fun self => rfl, ?_, ?_, ?_, ?_⟩
  · intro self c p h
    cases c <;> first | rfl | exact absurd rfl (h _ _)
  · intro self as p
    obtain ⟨ps, kw⟩ := as
    cases ps with
    | nil => rfl
    | cons v r => show (_ && _) = false; rw [show (Builtin.Bytes.decodersThatHold.contains "bytearray.__init__") = false by decide +kernel, Bool.and_false]
  · intro self as p
    obtain ⟨ps, kw⟩ := as
    cases ps with
    | nil => rfl
    | cons v r => show (_ && _) = false; rw [show (Builtin.Bytes.decodersThatHold.contains "type.__call__") = false by decide +kernel, Bool.and_false]
  · intro self as p
    obtain ⟨ps, kw⟩ := as
    cases ps with
    | nil => rfl
    | cons v r => show (_ && _) = false; rw [show (Builtin.Bytes.decodersThatHold.contains "claim.caller") = false by decide +kernel, Bool.and_false]
noncomputable def exF : Value → Code × Pos → Bool := Classical.choose exp_f
theorem exF_eq (self : Value) : Builtin.Bytes.exported self = (stack >>= fun st => pure (st.any (exF self))) := (Classical.choose_spec exp_f).1 self
noncomputable def OkC (c : Code) : Prop := ∀ self p, exF self (c, p) = false
theorem okC_plain {c : Code} (h : ∀ id as, c ≠ .builtin id as) : OkC c := fun self p => (Classical.choose_spec exp_f).2.1 self c p h
theorem okC_init (as : Args) : OkC (.builtin "bytearray.__init__" as) := fun self p => (Classical.choose_spec exp_f).2.2.1 self as p
theorem okC_type (as : Args) : OkC (.builtin "type.__call__" as) := fun self p => (Classical.choose_spec exp_f).2.2.2.1 self as p
theorem okC_caller (as : Args) : OkC (.builtin "claim.caller" as) := fun self p => (Classical.choose_spec exp_f).2.2.2.2 self as p
noncomputable def NoDec (Γ : PySem.Ctx) : Prop := OkC Γ.code ∧ ∀ self, Γ.below.any (exF self) = false
theorem NoDec.enter {Γ : PySem.Ctx} (h : NoDec Γ) {c : Code} (hc : OkC c) (hd : Option Value) (p : Pos) : NoDec (Γ.enter c hd p) := by
  refine ⟨hc, fun self => ?_⟩
  show ((Γ.code, p) :: Γ.below).any (exF self) = false
  rw [List.any_cons, h.1 self p, h.2 self]; rfl
theorem NoDec.goto {Γ : PySem.Ctx} (h : NoDec Γ) {c : Code} (hc : OkC c) : NoDec (Γ.goto c) := ⟨hc, h.2⟩
noncomputable def wpN {α : Type} (M : Model) (A : Around) (t : Sem α) (Q : α → Shared → Prop) (s : Shared) : Prop :=
  ∀ Γ p, Γ.In A → NoDec Γ → wp M Γ t (fun a _ s' => Q a s') (fun _ _ _ => False) p s
noncomputable def codeN (M : Model) (A : Around) (c : Code) (R : Flow → Shared → Prop) (s : Shared) : Prop :=
  ∀ Γ p, Γ.code = c → Γ.Below A → NoDec Γ → wpCode M Γ (fun r s' => match r with | .ok f => R f s' | .error _ => False) p s
section
variable {α β : Type} {M : Model} {A : Around} {s : Shared}
theorem wpN_of_any {t : Sem α} {Q : α → Shared → Prop} (h : wpAny M A t Q (fun _ _ => False) s) : wpN M A t Q s := fun Γ p hΓ _ => h Γ p hΓ
theorem wpN_mono {t : Sem α} {Q Q' : α → Shared → Prop} (h : wpN M A t Q s) (k : ∀ a s, Q a s → Q' a s) : wpN M A t Q' s :=
  fun Γ p hΓ hn => Sem.wp_mono M Γ t (fun a _ s => k a s) (fun _ _ _ h' => h') p s (h Γ p hΓ hn)
theorem wpN_bind {m : Sem α} {f : α → Sem β} {Q : β → Shared → Prop} (h : wpN M A m (fun a s' => wpN M A (f a) Q s') s) : wpN M A (m >>= f) Q s := fun Γ p hΓ hn => by
  rw [Sem.wp_bind']
  exact Sem.wp_mono M Γ m (fun a p' s' h' => h' Γ p' hΓ hn) (fun _ _ _ h' => h') p s (h Γ p hΓ hn)
theorem wpN_any_bind {m : Sem α} {f : α → Sem β} {Q : β → Shared → Prop} (h : wpAny M A m (fun a s' => wpN M A (f a) Q s') (fun _ _ => False) s) : wpN M A (m >>= f) Q s := wpN_bind (wpN_of_any h)
theorem wpN_pure {a : α} {Q : α → Shared → Prop} (h : Q a s) : wpN M A (pure a) Q s := fun _ _ _ _ => h
theorem wpN_holding {vs : List Value} {m : Sem α} {Q : α → Shared → Prop} (h : wpN M A m Q s) : wpN M A (holding vs m) Q s := fun Γ p hΓ hn => by rw [Sem.wp_holding]; exact h Γ p hΓ hn
theorem wpN_standAt {pos : Pos} {Q : Unit → Shared → Prop} (h : Q () s) : wpN M A (standAt pos) Q s := fun _ _ _ _ => h
theorem wpN_rule {tag : String} {Q : Unit → Shared → Prop} (h : Q () s) : wpN M A (rule tag) Q s := fun _ _ _ _ => h
theorem wpN_onRaise {m : Sem α} {k : Value → Sem Unit} {Q : α → Shared → Prop} (h : wpN M A m Q s) : wpN M A (m.onRaise k) Q s := fun Γ p hΓ hn => by
  rw [Sem.wp_onRaise]
  exact Sem.wp_mono M Γ m (fun _ _ _ h' => h') (fun _ _ _ h' => h'.elim) p s (h Γ p hΓ hn)
theorem wpN_run {c : Code} {hd : Option Value} {Q : Flow → Shared → Prop} (hc : OkC c) (h : codeN M (A.mark hd) c Q s) (hnb : hd ≠ some byPass := by intro x; cases x) : wpN M A (run c hd) Q s := fun Γ p hΓ hn => by
  rw [Sem.wp_run]
  refine wpCode_mono (fun r s' h' => ?_) (h _ p rfl (hΓ.enter c hd p hnb) (hn.enter hc hd p))
  cases r with
  | ok f => exact h'
  | error e => exact h'.elim
theorem wpN_runValue {c : Code} {Q : Value → Shared → Prop} (hc : OkC c) (h : codeN M A c (fun f s' => ∃ v, f = .ret v ∧ Q v s') s) : wpN M A (runValue c) Q s := fun Γ p hΓ hn => by
  rw [Sem.wp_runValue]
  refine wpCode_mono (fun r s' h' => ?_) (h _ p rfl (hΓ.enter c none p (by intro x; cases x)) (hn.enter hc none p))
  cases r with
  | ok f => obtain ⟨v, rfl, h'⟩ := h'; exact h'
  | error e => exact h'.elim
theorem wpN_call {f : Value} {pos : List Value} {kw : List (Str × Value)} {Q : Value → Shared → Prop} (h : codeN M A (.call f ⟨pos, kw⟩) (fun f s' => ∃ v, f = .ret v ∧ Q v s') s) : wpN M A (call f pos kw) Q s :=
  wpN_runValue (okC_plain fun _ _ => by intro x; cases x) h
theorem codeN_of_tree {c : Code} {R : Flow → Shared → Prop}
    (h : wpN M (A.under c) (M.den c) (fun fin s' => match fin with | .done f => R f s' | .again c' => OkC c' ∧ c'.quiet = true ∧ codeN M A c' R s') s) : codeN M A c R s := fun Γ p hc hΓ hn => by
  rw [wpCode_iff_wp, hc]
  refine Sem.wp_mono M Γ _ (fun fin p' s' h' => ?_) (fun _ _ _ h' => h'.elim) p s (h Γ p (hc ▸ hΓ.in) hn)
  cases fin with
  | done f => exact h'
  | again c' => exact ⟨h'.2.1, h'.2.2 (Γ.goto c') p' rfl (hΓ.goto c') (hn.goto h'.1)⟩
theorem wpN_exported {self : Value} {Q : Bool → Shared → Prop} (h : Q false s) : wpN M A (Builtin.Bytes.exported self) Q s := fun Γ p hΓ hn => by
  rw [exF_eq, Sem.wp_bind']
  show Q (((Γ.code, p) :: Γ.below).any (exF self)) s
  rw [List.any_cons, hn.1 self p, hn.2 self]
  exact h
theorem codeN_loop {c : Code} {R : Flow → Shared → Prop} (hok : OkC c) (hq : c.quiet = true) (I : Nat → Shared → Prop)
    (turn : ∀ n s, I n s → wpN M (A.under c) (M.den c) (fun fin s' => match fin with
        | .done f => R f s'
        | .again c' => (c' = c ∧ ∃ m, m < n ∧ I m s') ∨ (OkC c' ∧ c'.quiet = true ∧ codeN M A c' R s')) s)
    (n : Nat) (h : I n s) : codeN M A c R s := by
  induction n using Nat.strongRecOn generalizing s with
  | ind n ih =>
    refine codeN_of_tree (wpN_mono (turn n s h) fun fin s' hf => ?_)
    cases fin with
    | done f => exact hf
    | again c' =>
      rcases hf with ⟨rfl, m, hm, hI⟩ | hf
      · exact ⟨hok, hq, ih m hm hI⟩
      · exact hf
end
end Mine
end
section
open PySem PySem.W PyProof.Rows PySem.Calls
open Sem (wp)
set_option Elab.async false
set_option linter.all false
set_option autoImplicit false
set_option maxRecDepth 100000
namespace Mine
theorem ba_mro : mroOf (.type "bytearray") = pure [.type "bytearray", .type "object"] := by rw [mroOf_type]; kernel_rfl
theorem ba_lookup_new : typeLookup (.type "bytearray") "__new__" = pure (some (.builtin "bytearray.__new__")) := by rw [typeLookup_type, builtinLookup_eq_fast]; kernel_rfl
theorem ba_lookup_init : typeLookup (.type "bytearray") "__init__" = pure (some (.builtin "bytearray.__init__")) := by rw [typeLookup_type, builtinLookup_eq_fast]; kernel_rfl
theorem ba_init_slot : Slot "bytearray" "__init__" "bytearray.__init__" :=
  .of (owner := "bytearray") (n := "__init__") ba_lookup_init (by decide +kernel) (by decide +kernel) (by decide +kernel) (by first | exact .inl (by decide +kernel) | exact .inr (by decide +kernel)) F.isi_self_bytearray
theorem ba_called : TypeCalled "bytearray" "bytearray.__new__" "bytearray.__init__" :=
  ⟨by decide +kernel, by decide +kernel, ⟨_, _, ba_mro⟩, madeBy_type ba_mro ba_lookup_new (by decide +kernel), by decide +kernel, F.isi_self_bytearray, ba_init_slot⟩
theorem ba_typeCall (b : Array UInt8) (t : Tok) : checkTypeCall "bytearray" ⟨[.bytes b t], []⟩ = pure () := by kernel_rfl
theorem ba_newCall (b : Array UInt8) (t : Tok) : checkBuiltinCall "bytearray.__new__" ⟨[.type "bytearray", .bytes b t], []⟩ = pure () := by kernel_rfl
theorem ba_new_entry : entryFor table "bytearray.__new__" = some Builtin.«list.__new__» :=
  entryFor_alias (id' := "list.__new__") (by kernel_rfl) (by first | rfl | decide +kernel | (unfold String.splitOn; simp +decide [String.splitOnAux])) (by decide +kernel) (by kernel_rfl)
theorem ba_plain_new : plainId "bytearray.__new__" = true := by decide +kernel
theorem ba_init_entry : entryFor table "bytearray.__init__" = some Builtin.«bytearray.__init__» := entryFor_of_tree (by kernel_rfl)
theorem ba_init_args (a : Value) (b : Array UInt8) (t : Tok) : argsOk "bytearray.__init__" ⟨[a, .bytes b t], []⟩ := by unfold argsOk; kernel_rfl
set_option maxRecDepth 1000000 in
set_option maxHeartbeats 4000000 in
theorem ba_owner : ("bytearray.__new__".splitOn ".__new__").headD "" = "bytearray" := by simp +decide [String.splitOn, String.splitOnAux]
section
variable {prog : Program} {w : World} {A : Around} {E : Value → Shared → Prop} {s : Shared}
theorem code_ba_new (b : Array UInt8) (t : Tok) {Q₁ : Value → Shared → Prop}
    (h : Q₁ (.ref s.heap.objs.size) { s with heap := s.heap.push { cls := .type "bytearray", data := .bytearray #[] } }) :
    codeAny (model prog w) A (.call (.builtin "bytearray.__new__") ⟨[.type "bytearray", .bytes b t], []⟩) (wants Q₁ E) s := by
  refine codeAny_of_tree ?_
  show wpAny _ A.in1 (do checkBuiltinCall "bytearray.__new__" ⟨[.type "bytearray", .bytes b t], []⟩; again (.builtin "bytearray.__new__" ⟨[.type "bytearray", .bytes b t], []⟩)) _ _ s
  refine wpAny_bind (wpAny_of_eq (ba_newCall b t) (wpAny_pure ⟨plainId_quiet ba_plain_new _, codeAny_builtin_stack ba_new_entry rfl fun p st => ?_⟩))
  rw [Around.under_plainId ba_plain_new _]
  have hsub := F.isi_self_bytearray
  have hown := ba_owner
  obtain ⟨hp, g, d, tk, os⟩ := s
  simp only [hown]
  wp_walk
  exact h
end
end Mine
end
section
open PySem PySem.W PyProof.Rows PySem.Calls
open Sem (wp)
set_option Elab.async false
set_option linter.all false
set_option autoImplicit false
set_option maxRecDepth 100000
namespace Mine
section
variable {prog : Program} {w : World} {M : Model} {A : Around} {E : Value → Shared → Prop} {s : Shared}
theorem own_release {a : Addr} {b : Array UInt8} {Q : Bool → Shared → Prop} (hb : IsBarr s.heap a b) (h : Q false s) : wpAny M A (Builtin.Bytes.ownRelease (.ref a)) Q E s := by
  unfold Builtin.Bytes.ownRelease Builtin.Bytes.slotIsOwn
  refine wpAny_bind (wpAny_bind (wpAny_specialOf hb.type ba_release ?_))
  show wpAny _ _ (if (!("bytearray.__release_buffer__".endsWith ("." ++ "__release_buffer__"))) = true then _ else _) _ _ _
  rw [show ("bytearray.__release_buffer__".endsWith ("." ++ "__release_buffer__")) = true by decide +kernel]
  refine KFB.if_not rfl ?_
  show wpAny _ _ (isInstance (.ref a) (.type ("bytearray.__release_buffer__".dropRight ("__release_buffer__".length + 1)))) _ _ _
  rw [show ("bytearray.__release_buffer__".dropRight ("__release_buffer__".length + 1)) = "bytearray" by decide +kernel]
  exact wpAny_isInstance hb.type F.isi_self_bytearray (wpAny_pure h)
theorem bytes_buffer : typeLookup (.type "bytes") "__buffer__" = pure (some (.builtin "bytes.__buffer__")) := by rw [typeLookup_type, builtinLookup_eq_fast]; kernel_rfl
theorem bytes_no_release : typeLookup (.type "bytes") "__release_buffer__" = pure none := by rw [typeLookup_type, builtinLookup_eq_fast]; kernel_rfl
theorem bytes_no_index : typeLookup (.type "bytes") "__index__" = pure none := by rw [typeLookup_type, builtinLookup_eq_fast]; kernel_rfl
theorem bytes_type (b : Array UInt8) (t : Tok) : s.TypeIs (.bytes b t) "bytes" := by first | exact rfl | exact trivial
theorem bytes_self : isSubtype (.type "bytes") (.type "bytes") = pure true := by rw [isSubtype_type]; kernel_rfl
theorem buffer_bytes {b : Array UInt8} {t : Tok} {id : String} {Q : Option (Array UInt8) → Shared → Prop} (h : Q (some b) s) : wpAny M A (Builtin.Bytes.buffer? id (.bytes b t) true) Q E s := by
  have hT := bytes_type (s := s) b t
  unfold Builtin.Bytes.buffer? Builtin.Bytes.slotIsOwn Builtin.Bytes.ownRelease Builtin.Bytes.slotIsOwn
  refine wpAny_bind (wpAny_specialOf hT bytes_buffer ?_)
  refine wpAny_bind (wpAny_bind (wpAny_specialOf hT bytes_buffer ?_))
  show wpAny _ _ (if (!("bytes.__buffer__".endsWith ("." ++ "__buffer__"))) = true then _ else _) _ _ _
  rw [show ("bytes.__buffer__".endsWith ("." ++ "__buffer__")) = true by decide +kernel]
  refine KFB.if_not rfl ?_
  show wpAny _ _ (isInstance (.bytes b t) (.type ("bytes.__buffer__".dropRight ("__buffer__".length + 1)))) _ _ _
  rw [show ("bytes.__buffer__".dropRight ("__buffer__".length + 1)) = "bytes" by decide +kernel]
  refine wpAny_isInstance hT bytes_self ?_
  refine KFB.if_not rfl ?_
  refine wpAny_bind (wpAny_specialOf hT bytes_buffer ?_)
  refine wpAny_bind (wpAny_bind (wpAny_bind (wpAny_specialOf hT bytes_no_release (wpAny_pure (wpAny_pure ?_)))))
  refine KFB.if_not rfl ?_
  exact wpAny_bind (wpAny_pure (wpAny_pure h))
end
end Mine
end
section
open PySem PySem.W PyProof.Rows PySem.Calls
open Sem (wp)
set_option Elab.async false
set_option linter.all false
set_option autoImplicit false
set_option maxRecDepth 100000
namespace Mine
section
variable {prog : Program} {w : World} {M : Model} {A : Around} {E : Value → Shared → Prop} {s : Shared}
theorem nif_not {α : Type} {c : Bool} {a b : Sem α} {Q : α → Shared → Prop} (hc : c = false) (h : wpN M A b Q s) : wpN M A (if c = true then a else b) Q s := by subst hc; exact h
noncomputable abbrev baObj (b : Array UInt8) : Obj := { cls := .type "bytearray", data := .bytearray b }
theorem ba_write {a : Addr} {b c : Array UInt8} {Q : Unit → Shared → Prop} (ho : s.heap.get? a = some (baObj b)) (hc : c.size ≤ sizeLine) (h : ∀ h', Heap.SameBut a s.heap h' → h'.get? a = some (baObj c) → Q () { s with heap := h' }) : wpAny M A (Builtin.Bytes.write (.ref a) fun _ => c) Q E s := by
  show wpAny _ _ (updateBytearray a fun _ => c) _ _ _
  unfold updateBytearray
  refine wpAny_bind (wpAny_load ho ?_)
  refine wpAny_bind (wpAny_update ho ?_)
  have hu : (s.heap.update a (Obj.mapBytearray fun _ => c)).get? a = some (baObj c) := Heap.get?_update_self _ ho rfl
  exact wpAny_lookBehind hu (by show Data.pastItsLine (.bytearray c 0) = none; unfold Data.pastItsLine; simp; exact hc) (h _ (Heap.SameBut.update ..) hu)
theorem init_ba {a : Addr} {b : Array UInt8} {t : Tok} {Q : Fin → Shared → Prop} (ho : s.heap.get? a = some (baObj #[])) (hsz : b.size ≤ sizeLine) (h : ∀ h', Heap.SameBut a s.heap h' → h'.get? a = some (baObj b) → Q (.done (.ret .none)) { s with heap := h' }) :
    wpN M A (Builtin.«bytearray.__init__» ⟨[.ref a, .bytes b t], []⟩) Q s := by
  have hb : IsBarr s.heap a #[] := ⟨_, ho, rfl, rfl, 0, rfl⟩
  unfold Builtin.«bytearray.__init__»
  refine wpN_any_bind (own_release hb ?_)
  refine nif_not rfl ?_
  refine wpN_any_bind (wpAny_of_eq (a := [some (.bytes b t), none, none]) (by kernel_rfl) ?_)
  refine wpN_any_bind (wpAny_of_eq (a := ()) rfl ?_)
  refine wpN_any_bind (wpAny_of_eq (a := ()) rfl ?_)
  refine wpN_bind ?_
  show wpN _ _ (Builtin.Bytes.exported (.ref a) >>= fun x => _) _ _
  refine wpN_bind (wpN_exported ?_)
  show wpN _ _ (Builtin.Bytes.exportsOf (.ref a) >>= fun k => pure (decide (k > 0))) _ _
  refine wpN_bind ?_
  unfold Builtin.Bytes.exportsOf
  refine wpN_any_bind (wpAny_load ho ?_)
  refine wpN_pure (wpN_pure ?_)
  refine nif_not rfl ?_
  refine wpN_any_bind (ba_write ho (by rw [sizeLine_eq]; decide) fun h₁ hs₁ ho₁ => ?_)
  refine wpN_any_bind (m := asStr? (.bytes b t)) (wpAny_of_eq (a := none) (by first | rfl | kernel_rfl) ?_)
  refine nif_not rfl ?_
  refine wpN_any_bind (wpAny_pure ?_)
  refine wpN_any_bind (wpAny_specialOf (bytes_type b t) bytes_no_index ?_)
  refine nif_not rfl ?_
  refine wpN_any_bind (buffer_bytes ?_)
  refine wpN_any_bind (wpAny_rule ?_)
  refine wpN_any_bind (ba_write (s := { s with heap := h₁ }) ho₁ hsz fun h₂ hs₂ ho₂ => ?_)
  have hs₁' : Heap.SameBut a s.heap h₁ := hs₁
  have hs₂' : Heap.SameBut a h₁ h₂ := hs₂
  exact wpN_pure (h h₂ (hs₁'.trans hs₂') ho₂)
end
end Mine
end
section
open PySem PySem.W PyProof.Rows PySem.Calls
open Sem (wp)
set_option Elab.async false
set_option linter.all false
set_option autoImplicit false
set_option maxRecDepth 100000
namespace Mine
section
variable {prog : Program} {w : World} {A : Around} {E : Value → Shared → Prop} {s : Shared}
theorem codeN_builtin {id : String} {args : Args} {b : Builtin} {R : Flow → Shared → Prop} (hb : entryFor table id = some b)
    (h : wpN (model prog w) (A.under (.builtin id args)) (b args) (fun fin s' => match fin with | .done f => R f s' | .again c' => OkC c' ∧ c'.quiet = true ∧ codeN (model prog w) A c' R s') s) : codeN (model prog w) A (.builtin id args) R s := by
  refine codeN_of_tree ?_
  show wpN _ _ (match entryFor table id with | some b => b args | none => unsupported ((withoutEnding? id "#data").getD id)) _ _
  rw [hb]; exact h
theorem codeN_call_builtin {id : String} {args : Args} {b : Builtin} {R : Flow → Shared → Prop} (hok : OkC (.builtin id args)) (hq : (Code.builtin id args).quiet = true) (hb : entryFor table id = some b)
    (h : wpAny (model prog w) A.in1 (checkBuiltinCall id args) (fun _ s₁ => wpN (model prog w) (A.under (.builtin id args)) (b args) (fun fin s' => match fin with | .done f => R f s' | .again c' => OkC c' ∧ c'.quiet = true ∧ codeN (model prog w) A c' R s') s₁) (fun _ _ => False) s) :
    codeN (model prog w) A (.call (.builtin id) args) R s := by
  refine codeN_of_tree ?_
  show wpN _ A.in1 (do checkBuiltinCall id args; again (.builtin id args)) _ _
  exact wpN_any_bind (wpAny_mono h (fun _ s₁ h₁ => wpN_pure ⟨hok, hq, codeN_builtin hb h₁⟩) fun _ _ x => x)
theorem wpN_callSpecial {self : Value} {T : String} {name : Str} {id : String} {args : List Value} {Q : Option Value → Shared → Prop} {M : Model} (hT : s.TypeIs self T) (h : Slot T name id)
    (hc : wpN M A (call (.builtin id) (self :: args) []) (fun v => Q (some v)) s) : wpN M A (callSpecial? self name args []) Q s := by
  simp only [callSpecial?]
  refine wpN_any_bind (wpAny_specialOf hT h.lookup ?_)
  simp only [h.bind]
  exact wpN_holding (wpN_bind (wpN_pure (wpN_bind (wpN_mono hc fun v s' h' => wpN_pure h'))))
theorem callN_ba {b : Array UInt8} {t : Tok} {Q : Value → Shared → Prop} (hsz : b.size ≤ sizeLine) (h : ∀ h', (∀ d o, s.heap.get? d = some o → h'.get? d = some o) → h'.get? s.heap.objs.size = some (baObj b) → Q (.ref s.heap.objs.size) { s with heap := h' }) :
    wpN (model prog w) A (call (.type "bytearray") [.bytes b t]) Q s := by
  refine wpN_call (codeN_of_tree ?_)
  show wpN _ _ (callAny (.type "bytearray") _) _ _
  refine wpN_pure ⟨okC_type _, Code.quiet_builtin _ (by decide +kernel), codeN_builtin F.entry_type_call ?_⟩
  rw [Around.under_plain (weight_type_call_type "bytearray" [.bytes b t] []) rfl]
  unfold Builtin.«type.__call__»
  refine nif_not (by decide) ?_
  refine nif_not ba_called.canCreate ?_
  refine wpN_any_bind (wpAny_of_eq (a := ()) (ba_typeCall b t) ?_)
  refine wpN_any_bind (wpAny_of_eq ba_mro ?_)
  refine nif_not rfl ?_
  refine wpN_any_bind (wpAny_of_eq ba_called.made ?_)
  refine wpN_any_bind (wpAny_pure ?_)
  refine wpN_bind (wpN_holding (wpN_of_any (wpAny_call (codeAny_mono (code_ba_new (E := fun _ _ => False) (Q₁ := fun v s' => v = .ref s.heap.objs.size ∧ s' = { s with heap := s.heap.push (baObj #[]) }) b t ⟨rfl, rfl⟩) fun r s' hr => ?_))))
  cases r with
  | error e => exact hr.elim
  | ok f =>
    cases f with
    | ret v =>
      obtain ⟨rfl, rfl⟩ := (show v = .ref s.heap.objs.size ∧ s' = { s with heap := s.heap.push (baObj #[]) } from hr)
      have hg : (s.heap.push (baObj #[])).get? s.heap.objs.size = some (baObj #[]) := Heap.get?_push_size _ rfl
      have hT : Shared.TypeIs { s with heap := s.heap.push (baObj #[]) } (.ref s.heap.objs.size) "bytearray" := ⟨_, hg, rfl⟩
      refine wpN_any_bind (wpAny_isInstance hT F.isi_self_bytearray ?_)
      refine nif_not rfl ?_
      refine wpN_bind (wpN_holding (wpN_callSpecial hT ba_init_slot (wpN_call (codeN_call_builtin (okC_init _) (plainId_quiet ba_init_slot.plain _) ba_init_entry ?_))))
      refine ba_init_slot.check _ _ _ _ _ _ _ _ hT (ba_init_args _ b t) ?_
      refine init_ba hg hsz fun h' hs' ho' => ⟨.none, rfl, ?_⟩
      refine nif_not rfl ?_
      refine wpN_pure ⟨_, rfl, h h' (fun d o e => ?_) ho'⟩
      have hs'' : Heap.SameBut s.heap.objs.size (s.heap.push (baObj #[])) h' := hs'
      exact (hs''.2 d (Nat.ne_of_lt (Heap.lt_size e))).trans (Heap.get?_push_of_some _ e)
    | _ => exact hr.elim
end
end Mine
end
section
open PySem PySem.W PyProof.Rows PySem.Calls
open Sem (wp)
set_option Elab.async false
set_option linter.all false
set_option autoImplicit false
set_option maxRecDepth 100000
namespace Mine
section
variable {M : Model} {A : Around} {s : Shared} {env : Env}
theorem wpN_point {Q : Unit → Shared → Prop} (h : Q () s) : wpN M A point Q s := fun _ _ _ _ => h
theorem wpN_keep {α : Type} {vs : List Value} {t : Sem α} {Q : α → Shared → Prop} (h : wpN M A t Q s) : wpN M A (t.keep vs) Q s := fun Γ p hΓ hn => by
  rw [Sem.wp_keep]; exact h Γ p hΓ hn
theorem wpN_execs_cons {st : Stmt} {rest : List Stmt} {Q : Flow → Shared → Prop} (h : wpN M A (exec st env) (fun f s' => match f with | .next => wpN M A (execs rest env) Q s' | f => Q f s') s) : wpN M A (execs (st :: rest) env) Q s := by
  rw [execs_cons]
  refine wpN_bind (wpN_mono h fun f s' h' => ?_)
  cases f <;> first | exact h' | exact wpN_pure h'
theorem callWithN_type {pos : Pos} {T : String} {first : List Value} {args : List (Bool × Sem Value)} {Q : Value → Shared → Prop} (hplain : args.any (·.1) = false)
    (h : wpAny M A (evalArgs (.type T) true args []) (fun a s₁ => wpN M A (call (.type T) (first ++ a.pos) a.kw) Q s₁) (fun _ _ => False) s) : wpN M A (callWith pos (.type T) first args []) Q s := by
  unfold callWith
  refine wpN_bind (wpN_holding (wpN_of_any (wpAny_mono h (fun a s₁ h₁ => wpN_bind (wpN_standAt ?_)) fun _ _ x => x)))
  simp only [hplain, List.any_nil, Bool.or_false]
  refine wpN_bind (wpN_pure ?_)
  exact wpN_bind (wpN_mono h₁ fun r s₂ hr => wpN_bind (wpN_holding (wpN_point (wpN_pure hr))))
theorem callWithN_of {K : Frag} {f : Value} {pos : Pos} {first : List Value} {args : List (Bool × Sem Value)} {keywords : List (Option Str × Sem Value)} {Q : Value → Shared → Prop} (hplain : (args.any (·.1) || keywords.any (·.1.isNone)) = false) (hk : keepIn K f = true)
    (h : wpAny M A (evalArgs f true args keywords) (fun a s₁ => K.In s₁.heap ∧ wpN M A (call f (first ++ a.pos) a.kw) Q s₁) (fun _ _ => False) s) : wpN M A (callWith pos f first args keywords) Q s := by
  unfold callWith
  refine wpN_bind (wpN_holding (wpN_of_any (wpAny_mono h (fun a s₁ h₁ => wpN_bind (wpN_standAt ?_)) fun _ _ x => x)))
  obtain ⟨k, hk', L⟩ := keeps_K (M := M) hk _ h₁.1
  simp only [hplain]
  refine wpN_any_bind (L.here ?_)
  have tail : ∀ {t : Sem Value}, wpN M A t Q s₁ → wpN M A (t >>= fun r => holding [r] point >>= fun _ => pure r) Q s₁ :=
    fun ht => wpN_bind (wpN_mono ht fun r s₂ hr => wpN_bind (wpN_holding (wpN_point (wpN_pure hr))))
  have marked (mk : Value) : wpN M A (callMarked mk f (first ++ a.pos) a.kw) Q s₁ := by unfold callMarked; exact wpN_keep h₁.2
  rcases hk' with rfl | rfl | rfl <;> dsimp only <;> first | exact tail h₁.2 | (split <;> first | exact tail h₁.2 | exact tail (marked _))
end
section
variable {prog : Program} {w : World} {A : Around} {s : Shared}
theorem codeN_func {body : List Stmt} {env : Env} {R : Flow → Shared → Prop} (h : wpN (model prog w) (A.deeper env) (execs body env) (fun f s' => R (.ret (match f with | .ret v => v | _ => .none)) s') s) : codeN (model prog w) A (.func body env) R s := by
  refine codeN_of_tree ?_
  show wpN _ (A.deeper env) (do point; match ← (execs body env).onRaise (leaving env) with | .ret v => ret v | _ => ret .none) _ _
  refine wpN_bind (wpN_point (wpN_bind (wpN_onRaise (wpN_mono h fun f s' h' => ?_))))
  cases f <;> exact wpN_pure h'
theorem codeN_call_cells {R : Flow → Shared → Prop} {a : Addr} {o : Obj} {fd : FuncData} {body : List Stmt} {vals : List Value} {binds : List (Str × Value)}
    (hroom : A.depth < recursionLimit) (ho : s.heap.get? a = some o) (hdata : o.data = .func fd) (hlim : s.heap.NoLimit) (hcd : s.heap.CodeRec fd.code fd.qualname)
    (hbody : fd.body = .stmts body) (hbind : bindArgs fd ⟨vals, []⟩ = pure binds) (hclo : fd.closure = [])
    (hkind : ∀ x ∈ binds, fd.scope.names.lookup x.1 = some .local ∨ (fd.scope.names.lookup x.1 = some .cell ∧ ((cellsFrom (s.heap.objs.size + 1) fd.scope.names []).lookup x.1).isSome = true))
    (h : ∀ s₁, InCallC s (callEnvC fd s.heap.objs.size a).locals (bindL (callEnvC fd s.heap.objs.size a).kindOf binds fun _ => none) (callEnvC fd s.heap.objs.size a).cells
        (bindC (callEnvC fd s.heap.objs.size a).kindOf binds fun _ => none) s₁ →
      wpN (model prog w) (A.deeper (callEnvC fd s.heap.objs.size a)) (execs body (callEnvC fd s.heap.objs.size a)) (fun f s' => R (.ret (match f with | .ret v => v | _ => .none)) s') s₁)
    (hco : fd.scope.isCoroutine = false) (hgen : fd.scope.isGenerator = false) (hk : fd.scope.kind = .function) :
    codeN (model prog w) A (.call (.ref a) ⟨vals, []⟩) R s := by
  refine codeN_of_tree ?_
  show wpN _ A.in1 (callAny (.ref a) ⟨vals, []⟩) _ _
  simp only [callAny]
  refine wpN_any_bind (wpAny_load ho ?_)
  obtain ⟨c, oc, vs, tq, hc, hoc, hdc, hq⟩ := hcd
  simp only [hdata, callFunction, hco, hgen, hbody, hc]
  refine wpN_any_bind (m := field (.ref c) 1) (wpAny_field hoc hdc hq (wpN_bind (wpN_pure ?_)))
  rw [hbind]
  refine wpN_bind (wpN_pure (wpN_any_bind ?_))
  rw [hclo]
  refine wpAny_newFunctionEnv_cells hk hkind fun env he s' x => ?_
  rw [← hc] at he
  subst he
  exact wpN_any_bind (wpAny_enterFrame (hlim.keeps x.toInCall.keep) hroom (wpN_pure ⟨okC_plain (fun _ _ => by intro z; cases z), rfl, codeN_func (h s' x)⟩))
end
end Mine
end
section
open PySem PySem.W PyProof.Rows PySem.Calls
open Sem (wp)
set_option Elab.async false
set_option linter.all false
set_option autoImplicit false
set_option maxRecDepth 100000
namespace Mine
section
variable {Ω : Wd} {n : Nat}
noncomputable def EVN (Ω : Wd) (n : Nat) (c : Ctx) (e : Expr) (T : TE) : Prop :=
  ∀ (A : Around) (W : Addr → Prop) (ρ : Rho) (Q : D → Prop) (s : Shared), AOk c n A → Iv Ω c W ρ s.heap → T ρ Q (fun _ => False) → wpN (model Ω.prog Ω.w) A (eval e c.env) (Post Ω c W ρ s (RQ c W Q)) s
noncomputable def EXN (Ω : Wd) (n : Nat) (c : Ctx) (st : Stmt) (T : TS) : Prop :=
  ∀ (A : Around) (W : Addr → Prop) (ρ : Rho) (Q : Flw → Rho → Prop) (s : Shared), AOk c n A → Iv Ω c W ρ s.heap → T ρ Q (fun _ => False) → wpN (model Ω.prog Ω.w) A (exec st c.env) (SPost Ω c W s Q) s
noncomputable def EXsN (Ω : Wd) (n : Nat) (c : Ctx) (st : List Stmt) (T : TS) : Prop :=
  ∀ (A : Around) (W : Addr → Prop) (ρ : Rho) (Q : Flw → Rho → Prop) (s : Shared), AOk c n A → Iv Ω c W ρ s.heap → T ρ Q (fun _ => False) → wpN (model Ω.prog Ω.w) A (execs st c.env) (SPost Ω c W s Q) s
noncomputable def SpecN (Ω : Wd) (n : Nat) (f : Value) (τ : FT) : Prop :=
  ∀ (c : Ctx) (A : Around) (W : Addr → Prop) (ρ : Rho) (Q : D → Prop) (s : Shared) (ds : List D) (vs : List Value), AOk c n A → Iv Ω c W ρ s.heap → Reps (fun b => c.O b ∨ W b) s.heap ds vs → τ ds Q (fun _ => False) →
    wpN (model Ω.prog Ω.w) A (call f vs) (Post Ω c W ρ s (RQ c W Q)) s
theorem xno {c : Ctx} {W : Addr → Prop} {s s' : Shared} {v : Value} {X : Prop} (p : XPost Ω c W s (fun _ => False) v s') : X := by
  obtain ⟨_, _, _, _, _, _, hE, _⟩ := p; exact hE.elim
section
variable {c : Ctx}
theorem exN_of {st : Stmt} {T : TS} (h : EX Ω n c st T) : EXN Ω n c st T := fun A W ρ Q s a I hq => wpN_of_any (wpAny_mono (h A W ρ Q _ s a I hq) (fun _ _ x => x) fun _ _ x => xno x)
theorem exsN_of {st : List Stmt} {T : TS} (h : EXs Ω n c st T) : EXsN Ω n c st T := fun A W ρ Q s a I hq => wpN_of_any (wpAny_mono (h A W ρ Q _ s a I hq) (fun _ _ x => x) fun _ _ x => xno x)
theorem exsN_cons {st : Stmt} {rest : List Stmt} {t ts : TS} (h : EXN Ω n c st t) (hs : EXsN Ω n c rest ts) : EXsN Ω n c (st :: rest) (sCons t ts) := by
  intro A W ρ Q s a I hq
  refine wpN_execs_cons (wpN_mono (h A W ρ _ s a I hq) fun f s' p => ?_)
  obtain ⟨W', ρ', h', tk, g, rfl, x, gr, I', r, q⟩ := p
  cases g with
  | next =>
    cases r
    exact wpN_mono (hs A W' ρ' Q _ a I' q) fun _ _ p => p.sback x gr I'
  | brk => cases r; exact ⟨W', ρ', h', tk, .brk, rfl, x, gr, I', rfl, q⟩
  | cont => cases r; exact ⟨W', ρ', h', tk, .cont, rfl, x, gr, I', rfl, q⟩
  | ret d => obtain ⟨v, rfl, hr⟩ := r; exact ⟨W', ρ', h', tk, .ret d, rfl, x, gr, I', ⟨v, rfl, hr⟩, q⟩
theorem exN_assign {i : Nat} {np pos : Pos} {x : Expr} {t : TE} (hp : Place c i) (h : EVN Ω n c x t) (hs : swapsWith x (some (.Name (nm i) np)) pos.line c.env = pure false := by with_unfolding_all rfl) :
    EXN Ω n c (.Assign [.Name (nm i) np] x pos) (sAssign i t) := by
  intro A W ρ Q s a I hq
  rw [exec_Assign_Name _ _ _ _ _ hs]
  refine wpN_bind (wpN_standAt (wpN_bind (wpN_mono (h A W ρ _ s a I hq) fun v s₁ p => wpN_bind (wpN_standAt (wpN_any_bind (wpAny_bindName ?_))))))
  obtain ⟨h₁, tk₁, rfl, x₁, I₁, d, rd, hd⟩ := p
  have b₁ : Bk Ω c W ρ s { s with heap := h₁, toks := tk₁ } := ⟨h₁, tk₁, rfl, x₁, I₁⟩
  refine store (s := { s with heap := h₁, toks := tk₁ }) I₁ hp rd fun w h' tk hw hsb I' => wpN_pure ?_
  exact b₁.spost I ⟨W, _, h', tk, .next, rfl, ext_w hw hsb, .refl _ _, I', rfl, hd⟩
theorem exN_ret {pos : Pos} {x : Expr} {t : TE} (h : EVN Ω n c x t) : EXN Ω n c (.Return (some x) pos) (sRet t) := by
  intro A W ρ Q s a I hq
  rw [exec_Return_some]
  refine wpN_bind (wpN_standAt (wpN_bind (wpN_mono (h A W ρ _ s a I hq) fun v s₁ p => wpN_pure ?_)))
  obtain ⟨h₁, tk₁, rfl, x₁, I₁, d, rd, hd⟩ := p
  have b₁ : Bk Ω c W ρ s { s with heap := h₁, toks := tk₁ } := ⟨h₁, tk₁, rfl, x₁, I₁⟩
  exact b₁.spost I ⟨W, ρ, h₁, tk₁, .ret d, rfl, .refl _ _ _, .refl _ _, I₁, ⟨v, rfl, rd.weak fun _ q => .inl q⟩, hd⟩
noncomputable def tBa (t : TE) : TE := fun ρ Q E => t ρ (fun d => ∃ ns, d = .bytes ns ∧ ns.length ≤ 4096 ∧ Q (.barr ns)) E
theorem evN_ba {np pos : Pos} {e : Expr} {t : TE} (h : EV Ω n c e t) (hx : c.env.kindOf "bytearray" = some .globalImplicit) (hK : nsIn Ω.K mainGlobals "bytearray" = some none)
    (he : eval (.Call (.Name "bytearray" np) [e] [] pos) c.env = (do callWith pos (← eval (.Name "bytearray" np) c.env) [] (backTo pos (starEach [e] c.env)) (backToKw pos (keywordEach [] c.env))) := by with_unfolding_all rfl)
    (hst : starEach [e] c.env = (false, eval e c.env) :: starEach [] c.env := by with_unfolding_all rfl) : EVN Ω n c (.Call (.Name "bytearray" np) [e] [] pos) (tBa t) := by
  intro A W ρ Q s a I hq
  rw [he]
  refine wpN_any_bind (blt_name I hx hK (v := .type "bytearray") (by decide +kernel) (by decide +kernel) (by decide +kernel) ?_)
  refine callWithN_type (by rw [hst]; rfl) ?_
  rw [hst]
  refine evalArgs_plain (spliced_cons (wpAny_mono (h A W ρ _ _ s a I hq) (fun v s₁ p => spliced_nil ?_) fun _ _ x => xno x))
  obtain ⟨h₁, tk₁, rfl, x₁, I₁, d, rd, ns, hd, hl, hQ⟩ := p
  subst hd
  unfold Rep at rd
  obtain ⟨b, t', rfl, hbi⟩ := rd
  have hsz : b.size = ns.length := by rw [← KBw.ints_length, hbi]
  have b₁ : Bk Ω c W ρ s { s with heap := h₁, toks := tk₁ } := ⟨h₁, tk₁, rfl, x₁, I₁⟩
  refine callN_ba (by rw [sizeLine_eq, hsz]; exact Nat.le_trans hl (by decide)) fun h' hk ho => ?_
  refine pl (b₁.step tk₁ (.of_keep hk)) ⟨.barr ns, ?_, hQ⟩
  unfold Rep
  exact ⟨_, b, rfl, ⟨_, ho, rfl, rfl, 0, rfl⟩, I₁.fresh (get_size _), hbi⟩
theorem specN_fn {f : Addr} {fd : FuncData} {is : List Nat} {body : List Stmt} {t : TS} (K : FnK Ω f fd is body) (hb : ∀ L outer O, EXsN Ω n (fctx fd f L outer O) body t) : SpecN Ω (n + 1) (.ref f) (fSpec is t) := by
  intro c A W ρ Q s ds vs a I rv ⟨hlen, hq⟩
  have ho := (Ω.X.keeps I.keep) _ _ K.obj
  refine wpN_call (codeN_call_cells (fd := fd) (binds := (is.map nm).zip vs) (by have := a.depth; omega) ho rfl (Ω.T.nolimit.keeps I.keep) (codeRec_of (Ω.X.keeps I.keep) K.code) K.bodyE (K.bind vs (by rw [rv.length, hlen])) K.clo ?_ ?_ K.co K.gen K.kind)
  · intro x hx
    obtain ⟨i, hi, e⟩ := List.mem_map.mp (List.of_mem_zip hx).1
    rcases K.params i hi with q | q
    · exact .inl (e ▸ q)
    · exact .inr (e ▸ ⟨q, cellsFrom_some _ _ _ (.inl q)⟩)
  intro s₁ x
  obtain ⟨W', I', back, _⟩ := fn_setup K I rv hlen x
  have a' : AOk (fctx fd f s.heap.objs.size (c.fenv :: c.outer) (fun b => c.O b ∨ W b)) n (A.deeper (callEnvC fd s.heap.objs.size f)) := ⟨a.hd, Around.frames_deeper a.frames, by have := a.depth; show A.depth + 1 + 60 + n < _; omega, by have := a.units; show A.units + 3 + 100 + 8 * n < _; omega⟩
  exact wpN_mono (hb _ _ _ _ W' _ _ _ a' I' hq) fun fl s' p => ⟨_, rfl, back Q fl s' p⟩
noncomputable def MethOkN (Ω : Wd) (n : Nat) (a : Addr) (name : Str) (τ : FT) : Prop :=
  ∃ C dx es k f, InstK Ω a C dx es k ∧ plainGet Ω.K C name = true ∧ findIn Ω.K (.ref C) name = some (some (.ref f)) ∧ isFn Ω.K (.ref f) = true ∧ getL name es = some none ∧ keepIn Ω.K (.ref f) = true ∧ SpecN Ω n (.ref f) τ
noncomputable def tMethN (Ω : Wd) (n : Nat) (name : Str) (t : TE) (ts : TL) : TE := fun ρ Q E => t ρ (fun d => ∃ a τ, d = .ref a ∧ MethOkN Ω n a name τ ∧ ts ρ (fun ds => τ (.ref a :: ds) Q E) E) E
theorem evN_meth {o : Expr} {name : Str} {apos pos : Pos} {e : Expr} {es : List Expr} {t : TE} {ts : TL} {pld : Sem Bool} (ho : EV Ω n c o t) (hs : EVs Ω n c (e :: es) ts)
    (he : eval (.Call (.Attribute o name apos) (e :: es) [] pos) c.env = (do
      let ov ← eval o c.env
      standAt apos.atName
      let (f, first) ← holding [ov] (getMethod ov name pld)
      callWith pos f first (backTo pos (starEach (e :: es) c.env)) []) := by with_unfolding_all rfl)
    (hst : starEach (e :: es) c.env = (false, eval e c.env) :: starEach es c.env := by with_unfolding_all rfl) (hpl : (backTo pos (starEach es c.env)).any (·.1) = false := by with_unfolding_all rfl) :
    EVN Ω n c (.Call (.Attribute o name apos) (e :: es) [] pos) (tMethN Ω n name t ts) := by
  intro A W ρ Q s ha I hq
  rw [he]
  refine wpN_any_bind (wpAny_mono (ho A W ρ _ _ s ha I hq) (fun v s₁ p => wpN_bind (wpN_standAt (wpN_any_bind (wpAny_holding ?_)))) fun _ _ x => xno x)
  obtain ⟨h₁, tk₁, rfl, x₁, I₁, d, rd, a, τ, hd, ⟨C, dx, des, k, f, hI, h1, h2, h3, h4, h5, hf⟩, hts⟩ := p
  subst hd
  unfold Rep at rd
  subst rd
  obtain ⟨m, hm⟩ := I₁.ns0
  have b₁ : Bk Ω c W ρ s { s with heap := h₁, toks := tk₁ } := ⟨h₁, tk₁, rfl, x₁, I₁⟩
  refine method_inst (s := { s with heap := h₁, toks := tk₁ }) (Fr.mk hm I₁.keep (I₁.wabove _ I₁.wL)) Ω.X (hI.at I₁.keep) h1 h2 h3 h4 ?_
  refine callWithN_of (by rw [hst]; show ((false || (backTo pos (starEach es c.env)).any (·.1)) || false) = false; rw [hpl]; rfl) h5 ?_
  have hev := hs A W ρ _ (fun _ => False) { s with heap := h₁, toks := tk₁ } pos ha I₁ hts
  rw [hst] at hev ⊢
  refine evalArgs_plain (wpAny_mono hev (fun vs s₂ p => ?_) fun _ _ x => xno x)
  obtain ⟨h₂, tk₂, rfl, x₂, I₂, ds, rds, hds⟩ := p
  have b₂ : Bk Ω c W ρ s { s with heap := h₂, toks := tk₂ } := ⟨h₂, tk₂, rfl, x₁.trans x₂, I₂⟩
  refine ⟨Ω.X.keeps I₂.keep, wpN_mono (hf c A W ρ Q { s with heap := h₂, toks := tk₂ } (.ref a :: ds) (.ref a :: vs) ha I₂ ?_ hds) fun v s' p => ?_⟩
  · unfold Reps Rep
    exact ⟨_, _, rfl, rfl, rds⟩
  · obtain ⟨h₃, tk₃, rfl, x₃, I₃, r⟩ := p
    exact ⟨h₃, tk₃, rfl, (x₁.trans x₂).trans x₃, I₃, r⟩
end
end
end Mine
end
section
open PySem PySem.W PyProof.Rows PySem.Calls
open Sem (wp)
set_option Elab.async false
set_option linter.all false
set_option autoImplicit false
set_option maxRecDepth 100000
namespace Mine
section
variable {prog : Program} {w : World} {A : Around} {s : Shared}
theorem codeN_block_nil {env : Env} {R : Flow → Shared → Prop} (h : R .next s) : codeN (model prog w) A (.block [] env) R s := by
  refine codeN_of_tree ?_
  show wpN _ _ (do return Fin.done (← (execs [] env).onRaise (fun x => do noteFrame x env; theTreesLotGoes x))) _ _
  exact wpN_bind (wpN_onRaise (wpN_of_any (wpAny_execs_nil (wpN_pure h))))
theorem codeN_forLoop {R : Flow → Shared → Prop} {target : Expr} {it : Value} {body : List Stmt} {env : Env} (I : Nat → Shared → Prop)
    (turn : ∀ n s, I n s → wpAny (model prog w) A (pyNext it) (fun r s₁ => match r with
      | none => R .next s₁
      | some v => wpAny (model prog w) A (letOwnedTupleGo target it v) (fun _ s₁' => wpAny (model prog w) A (assign target env v) (fun _ s₂ => wpN (model prog w) A (execs body env) (fun f s₃ => match f with
          | .next => ∃ m, m < n ∧ I m s₃
          | .cont => ∃ m, m < n ∧ I m s₃
          | .brk => R .next s₃
          | .ret v => R (.ret v) s₃) s₂) (fun _ _ => False) s₁') (fun _ _ => False) s₁) (fun _ _ => False) s)
    (n : Nat) (h : I n s) : codeN (model prog w) A (.forLoop target it body [] env) R s := by
  refine codeN_loop (okC_plain fun _ _ => by intro z; cases z) rfl I (fun n s hI => ?_) n h
  show wpN _ A ((forTurn target it body [] env).onRaise (fun x => do noteFrame x env; theTreesLotGoes x)) _ _
  refine wpN_onRaise ?_
  simp only [forTurn]
  refine wpN_bind (wpN_standAt (wpN_bind (wpN_onRaise (wpN_of_any (wpAny_mono (turn n s hI) (fun r s₁ h₁ => ?_) fun _ _ x => x)))))
  cases r with
  | none => exact wpN_pure (.inr ⟨okC_plain (fun _ _ => by intro z; cases z), rfl, codeN_block_nil h₁⟩)
  | some v =>
    refine wpN_any_bind (wpAny_mono h₁ (fun _ s₁' h₁' => ?_) fun _ _ x => x)
    refine wpN_any_bind (wpAny_mono h₁' (fun _ s₂ h₂ => ?_) fun _ _ x => x)
    refine wpN_bind (wpN_mono h₂ fun f s₃ h₃ => ?_)
    cases f with
    | next => exact wpN_pure (.inl ⟨rfl, h₃⟩)
    | cont => exact wpN_pure (.inl ⟨rfl, h₃⟩)
    | brk => exact wpN_pure h₃
    | ret v => exact wpN_pure h₃
theorem wpN_For {target iter : Expr} {body : List Stmt} {pos : Pos} {env : Env} {Q : Flow → Shared → Prop}
    (h : wpAny (model prog w) A (eval iter env) (fun x s₁ => wpAny (model prog w) A (pyIter x) (fun it s₂ => codeN (model prog w) A (.forLoop target it body [] env) Q s₂) (fun _ _ => False) s₁) (fun _ _ => False) s)
    (hs : ∀ x, foldedSetIterable iter env x = pure x) : wpN (model prog w) A (exec (.For target iter body [] pos) env) Q s := by
  rw [exec_For]
  refine wpN_bind (wpN_standAt (wpN_any_bind (wpAny_mono h (fun x s₁ h₁ => ?_) fun _ _ x => x)))
  refine wpN_any_bind (wpAny_of_eq (hs x) (wpN_bind (wpN_standAt (wpN_bind (wpN_holding (wpN_of_any (wpAny_mono h₁ (fun it s₂ h₂ => ?_) fun _ _ x => x)))))))
  unfold runOwn
  exact wpN_onRaise (wpN_run (okC_plain fun _ _ => by intro z; cases z) h₂)
end
section
variable {Ω : Wd} {n : Nat} {c : Ctx}
theorem loopN_core {A : Around} {tgt : Expr} {body : List Stmt} {Ia : Addr} {fp wr : List Addr} {St : Nat → Heap → Prop} {ds : List D} {P : Nat → Value → Prop} {bind : Nat → D → Rho → Rho} {tb : TS} {W : Addr → Prop} {ρ : Rho} {Q : Flw → Rho → Prop} {E : Nat → Prop} {s₀ s : Shared}
    (a : AOk c n A) (hb : ∀ O', EXsN Ω n (c.withO O') body tb)
    (sub : ∀ b ∈ wr, b ∈ fp) (frame : ∀ i h h', St i h → (∀ b ∈ fp, ∀ o, h.get? b = some o → h'.get? b = some o) → St i h') (thereF : ∀ i h b, St i h → b ∈ fp → ∃ o, h.get? b = some o)
    (turn : ∀ (W : Addr → Prop) (ρ : Rho) (s : Shared) (i : Nat) (d : D) (K : Shared → Prop) (E' : Value → Shared → Prop), Iv Ω (c.withO fun b => c.O b ∨ b ∈ wr) W ρ s.heap → (∀ b ∈ fp, ¬ W b ∧ ¬ c.F b) → (∀ b ∈ wr, Ω.base.get? b = none) → St i s.heap → ds[i]? = some d →
      (∀ v, P i v → Rep (fun b => (c.O b ∨ b ∈ wr) ∨ W b) s.heap d v) →
      (∀ h' tk, Ext (fun b => W b ∨ b ∈ wr) c.F s.heap h' → Iv Ω (c.withO fun b => c.O b ∨ b ∈ wr) W (bind i d ρ) h' → St (i + 1) h' → K { s with heap := h', toks := tk }) →
      wpAny (model Ω.prog Ω.w) A (pyNext (.ref Ia)) (fun r s₁ => match r with
        | none => False
        | some v => wpAny (model Ω.prog Ω.w) A (letOwnedTupleGo tgt (.ref Ia) v) (fun _ s₁' => wpAny (model Ω.prog Ω.w) A (assign tgt c.env v) (fun _ s₂ => K s₂) E' s₁') E' s₁) E' s)
    (done : ∀ (s : Shared) (K : Option Value → Shared → Prop) (E' : Value → Shared → Prop), St ds.length s.heap → (∀ h' tk, (∀ b o, b ∉ wr → s.heap.get? b = some o → h'.get? b = some o) → K none { s with heap := h', toks := tk }) →
      wpAny (model Ω.prog Ω.w) A (pyNext (.ref Ia)) K E' s)
    (I₀ : Iv Ω c W ρ s₀.heap) (b₀ : Bk Ω c W ρ s₀ s) (new : ∀ b ∈ wr, s₀.heap.get? b = none) (fpW : ∀ b ∈ fp, ¬ (c.O b ∨ W b)) (st : St 0 s.heap)
    (items : ∀ i v d, P i v → ds[i]? = some d → Rep (fun b => (c.O b ∨ b ∈ wr) ∨ W b) s.heap d v) (hq : loopT bind tb 0 ds ρ Q E) :
    codeN (model Ω.prog Ω.w) A (.forLoop tgt (.ref Ia) body [] c.env) (fun f s' => SPost Ω c W s₀ Q f s') s := by
  have newB : ∀ b ∈ wr, Ω.base.get? b = none := fun b hb => by
    cases q : Ω.base.get? b with
    | none => rfl
    | some o => have := I₀.keep b o q; rw [new b hb] at this; cases this
  have fpF : ∀ b ∈ fp, ¬ c.F b := fun b hb f => fpW b hb (.inl (I₀.FO b f))
  have a' : ∀ O', AOk (c.withO O') n A := fun O' => ⟨a.hd, a.frames, a.depth, a.units⟩
  obtain ⟨hs, tks, rfl, xs, _⟩ := b₀
  -- what is left behind the loop
  have out : ∀ {W' : Addr → Prop} {ρ' : Rho} {h h' : Heap} {tk : Nat} {f : Flow} {g : Flw}, Iv Ω (c.withO fun b => c.O b ∨ b ∈ wr) W' ρ' h → (∀ b o, b ∉ wr → h.get? b = some o → h'.get? b = some o) → (∀ b ∈ fp, ¬ W' b) → Ext W c.F s₀.heap h → Grown W W' s₀.heap → FlRep c.O h' g f → Q g ρ' →
      SPost Ω c W s₀ Q f { s₀ with heap := h', toks := tk } := fun {W' ρ' h h' tk f g} I k hw x gr r q => by
    refine ⟨W', ρ', h', tk, g, rfl, ?_, gr, ?_, r, q⟩
    · exact ⟨fun b o hb e => let ⟨o', e', s1⟩ := x.more b o hb e; ⟨o', k b o' (fun m => by rw [new b m] at e; cases e) e', s1⟩, fun b o hb hf e => k b o (fun m => by rw [new b m] at e; cases e) (x.keep b o hb hf e)⟩
    · have := Iv.step (V := fun b => b ∈ wr) (O₂ := c.O) I (fun b o hb e => k b o hb e) (fun b hb => ⟨.inr hb, hw b (sub b hb), newB b hb, fpF b (sub b hb)⟩) (fun b q => .inl q) I₀.FO fun b hb => ?_
      · exact this
      · obtain ⟨o, ho⟩ := I.there b (.inr (.inl hb))
        exact ⟨o, k b o (fun m => fpW b (sub b m) (.inl hb)) ho⟩
  let J : Nat → Shared → Prop := fun k s' => ∃ i W' ρ' h' tk, s' = { s₀ with heap := h', toks := tk } ∧ k = ds.length + 1 - i ∧ i ≤ ds.length ∧ Iv Ω (c.withO fun b => c.O b ∨ b ∈ wr) W' ρ' h' ∧ Ext W c.F s₀.heap h' ∧ Grown W W' s₀.heap ∧ St i h' ∧ (∀ b ∈ fp, ¬ W' b) ∧
      (∀ j v d, P j v → ds[j]? = some d → Rep (fun b => (c.O b ∨ b ∈ wr) ∨ W' b) h' d v) ∧ loopT bind tb i (ds.drop i) ρ' Q E
  let K : Nat → Shared → Prop := fun k s₂ => wpN (model Ω.prog Ω.w) A (execs body c.env) (fun f s₃ => match f with
    | .next => ∃ m, m < k ∧ J m s₃
    | .cont => ∃ m, m < k ∧ J m s₃
    | .brk => SPost Ω c W s₀ Q .next s₃
    | .ret v => SPost Ω c W s₀ Q (.ret v) s₃) s₂
  refine codeN_forLoop J ?_ (ds.length + 1) ?_
  · rintro k s' ⟨i, W', ρ', h', tk, rfl, rfl, hi, I, x, gr, st', hw, it, hl⟩
    rcases Nat.lt_or_ge i ds.length with hlt | hge
    · have hd : ds[i]? = some ds[i] := List.getElem?_eq_getElem hlt
      rw [List.drop_eq_getElem_cons hlt] at hl
      refine wpAny_mono (turn W' ρ' { s₀ with heap := h', toks := tk } i ds[i] (K (ds.length + 1 - i)) (fun _ _ => False) I (fun b hb => ⟨hw b hb, fpF b hb⟩) newB st' hd (fun v hv => it i v _ hv hd) fun h₁ tk₁ x₁ I₁ st₁ => ?_) (fun r s₁ h₁ => ?_) fun _ _ z => z
      rotate_left
      · cases r with
        | none => exact h₁.elim
        | some v =>
          refine wpAny_mono h₁ (fun _ _ h₂ => wpAny_mono h₂ (fun _ _ h₃ => wpN_mono h₃ fun f _ h₄ => ?_) fun _ _ z => z) fun _ _ z => z
          cases f <;> exact h₄
      · have hwr : ∀ b ∈ wr, ¬ (W' b) := fun b hb => hw b (sub b hb)
        have gone₀ : ∀ b o, s₀.heap.get? b = some o → ¬ W b → ¬ (W' b ∨ b ∈ wr) := fun b o e nb q => by
          rcases q with q | q
          · rcases gr.2 b q with q | q
            · exact nb q
            · rw [e] at q; cases q
          · rw [new b q] at e; cases e
        have x₀₁ : Ext W c.F s₀.heap h₁ := ⟨fun b o hb e => let ⟨o', e', s1⟩ := x.more b o hb e; let ⟨o'', e'', s2⟩ := x₁.more b o' (gone₀ b o e hb) e'; ⟨o'', e'', s1.trans s2⟩,
          fun b o hb hf e => x₁.keep b o (gone₀ b o e hb) hf (x.keep b o hb hf e)⟩
        refine wpN_mono (hb (fun b => c.O b ∨ b ∈ wr) A W' _ _ { s₀ with heap := h₁, toks := tk₁ } (a' _) I₁ hl) fun f s₃ p => ?_
        · obtain ⟨W'', ρ'', h₂, tk₂, g, rfl, x₂, g₂, I₂, r₂, q₂⟩ := p
          have x₀₂ : Ext W c.F s₀.heap h₂ := ⟨fun b o hb e => let ⟨o', e', s1⟩ := x₀₁.more b o hb e; let ⟨o'', e'', s2⟩ := x₂.more b o' (fun w => gone₀ b o e hb (.inl w)) e'; ⟨o'', e'', s1.trans s2⟩,
            fun b o hb hf e => x₂.keep b o (fun w => gone₀ b o e hb (.inl w)) hf (x₀₁.keep b o hb hf e)⟩
          have gr₂ : Grown W W'' s₀.heap := ⟨fun b w => g₂.1 b (gr.1 b w), fun b w => by
            rcases g₂.2 b w with q | q
            · exact gr.2 b q
            · cases e : s₀.heap.get? b with
              | none => exact .inr rfl
              | some o =>
                by_cases z : W b
                · exact .inl z
                · obtain ⟨o', e', _⟩ := x₀₁.more b o z e
                  rw [q] at e'; cases e'⟩
          have hw₂ : ∀ b ∈ fp, ¬ W'' b := fun b hb w => by
            rcases g₂.2 b w with q | q
            · exact hw b hb q
            · obtain ⟨o, ho⟩ := thereF _ h₁ b st₁ hb
              rw [show h₁.get? b = none from q] at ho; cases ho
          have st₂ : St (i + 1) h₂ := frame _ h₁ h₂ st₁ fun b hb o e => x₂.keep b o (hw b hb) (fpF b hb) e
          have it₂ : ∀ j v d, P j v → ds[j]? = some d → Rep (fun b => (c.O b ∨ b ∈ wr) ∨ W'' b) h₂ d v := fun j v d hv hj => by
            have r₁ : Rep (fun b => (c.O b ∨ b ∈ wr) ∨ W' b) h₁ d v := Rep.ext x₁ (fun b q => q.elim .inr fun m => .inl (.inr m)) (fun _ _ _ z => z) d v (it j v d hv hj)
            refine Rep.ext x₂ (fun b q => .inr q) (fun b o e q => q.imp id fun w => ?_) d v r₁
            rcases g₂.2 b w with q | q
            · exact q
            · rw [show h₁.get? b = none from q] at e; cases e
          have go : loopT bind tb (i + 1) (ds.drop (i + 1)) ρ'' Q E → ∃ m, m < ds.length + 1 - i ∧ J m { s₀ with heap := h₂, toks := tk₂ } := fun q =>
            ⟨ds.length + 1 - (i + 1), lt_less hlt, i + 1, W'', ρ'', h₂, tk₂, rfl, rfl, hlt, I₂, x₀₂, gr₂, st₂, hw₂, it₂, q⟩
          cases g with
          | next => cases r₂; exact go q₂
          | cont => cases r₂; exact go q₂
          | brk => cases r₂; exact out I₂ (fun _ _ _ e => e) hw₂ x₀₂ gr₂ (g := .next) rfl q₂
          | ret d =>
            obtain ⟨v, rfl, hr⟩ := r₂
            exact out I₂ (fun _ _ _ e => e) hw₂ x₀₂ gr₂ (g := .ret d) ⟨v, rfl, hr.weak fun b q => .inl q⟩ q₂
    · have hi' : i = ds.length := Nat.le_antisymm hi hge
      subst hi'
      rw [List.drop_length] at hl
      refine done _ _ _ st' fun h₁ tk₁ k₁ => ?_
      exact out I k₁ hw x gr (g := .next) rfl hl
  · have I' := I₀.widen xs (V := fun b => b ∈ wr) fun b hb => ⟨new b hb, thereF 0 hs b st (sub b hb)⟩
    exact ⟨0, W, ρ, hs, tks, rfl, rfl, Nat.zero_le _, I', ext_e I₀ xs, .refl _ _, st, fun b hb w => fpW b hb (.inr w), items, by rw [List.drop_zero]; exact hq⟩
theorem exN_forE {x y : Nat} {es : List Expr} {kk : Nat} {px np cp pos : Pos} {e : Expr} {body : List Stmt} {t : TE} {tb : TS} (hn : NmE [x, y] es) (hp : ∀ i ∈ [x, y], Place c i) (hi : EV Ω n c e t) (hb : ∀ O', EXsN Ω n (c.withO O') body tb)
    (hx : c.env.kindOf "enumerate" = some .globalImplicit) (hK : nsIn Ω.K mainGlobals "enumerate" = some none)
    (hs : ∀ y, foldedSetIterable (.Call (.Name "enumerate" np) [e] [] cp) c.env y = pure y := by intro _; with_unfolding_all rfl)
    (hst : starEach [e] c.env = (false, eval e c.env) :: starEach [] c.env := by with_unfolding_all rfl) : EXN Ω n c (.For (.Tuple es kk px) (.Call (.Name "enumerate" np) [e] [] cp) body [] pos) (sForE x y t tb) := by
  intro A W ρ Q s a I hq
  refine wpN_For (Call_ (blt_name I hx hK (v := .type "enumerate") (by decide +kernel) (by decide +kernel) (by decide +kernel) ?_)) hs
  refine Pv.callWith_type1 ?_ hst (by rfl)
  rw [hst]
  refine spliced_cons (wpAny_mono (hi A W ρ _ (fun _ => False) s a I hq) (fun v s₁ p => spliced_nil ?_) fun _ _ x => xno x)
  obtain ⟨h₁, tk₁, rfl, x₁, I₁, d, rd, ds, hd, hl⟩ := p
  have b₁ : Bk Ω c W ρ s { s with heap := h₁, toks := tk₁ } := ⟨h₁, tk₁, rfl, x₁, I₁⟩
  generalize hs₁ : ({ s with heap := h₁, toks := tk₁ } : Shared) = s₁ at b₁
  have rd : Rep (fun b => c.O b ∨ W b) s₁.heap d v := by subst hs₁; exact rd
  subst hd
  unfold Rep at rd
  obtain ⟨l, vs, rfl, hL, hnO, hr⟩ := rd
  have hlt : l < s₁.heap.objs.size := by obtain ⟨_, e, _⟩ := hL; exact Heap.lt_size e
  have hsz : vs.toArray.size = ds.length := by rw [List.size_toArray, hr.length]
  have hh := a.hd
  refine call_enumerate_list hL fun h₂ he hit _ k₂ => ?_
  have b₂ := b₁.step s₁.toks (.of_keep k₂)
  refine wpAny_pyIter_enum he ?_
  have g1 : s₁.heap.get? s₁.heap.objs.size = none := get_size _
  have g2 : s₁.heap.get? (s₁.heap.objs.size + 1) = none := Heap.get?_none_of_le (Nat.le_succ _)
  have new : ∀ b ∈ [s₁.heap.objs.size + 1, s₁.heap.objs.size], s₁.heap.get? b = none := fun b hb => by
    rcases List.mem_cons.mp hb with rfl | hb
    · exact g2
    · rw [List.mem_singleton.mp hb]; exact g1
  have Wk := WalksT.enumerate (prog := Ω.prog) (w := Ω.w) (A := A) hh (s₁.heap.objs.size + 1) s₁.heap.objs.size l (Nat.succ_ne_self _) (Nat.ne_of_lt (Nat.lt_succ_of_lt hlt)) (Nat.ne_of_lt hlt) vs.toArray
  refine loopN_core (s₀ := s) (bind := bEnum x y) (P := fun i v => vs.toArray[i]? = some v) a hb Wk.sub Wk.frame enum_there (turn_enum hh (Nat.succ_ne_self _) (Nat.ne_of_lt (Nat.lt_succ_of_lt hlt)) (Nat.ne_of_lt hlt) hsz hn hp) (fun s K E' st k => Wk.done s K E' (hsz ▸ st) k) I b₂ (fun b hb' => b₁.gone (new b hb')) (fun b hb' => ?_)
    ⟨⟨_, he⟩, hit, hL.at fun o q => k₂ l o q⟩ (fun i v d hv hd => ?_) hl
  · rcases List.mem_cons.mp hb' with rfl | hb'
    · exact b₁.iv.fresh g2
    · rcases List.mem_cons.mp hb' with rfl | hb'
      · exact b₁.iv.fresh g1
      · rw [List.mem_singleton.mp hb']; exact hnO
  · obtain ⟨v', hv', hrv⟩ := hr.get hd
    have : v = v' := by
      have e : vs[i]? = some v := by simpa using hv
      rw [hv'] at e; cases e; rfl
    subst this
    refine Rep.ext (W := fun _ => False) (F := fun _ => False) (.of_keep fun b o _ q => k₂ b o q) (fun _ q => q.elim) (fun b o e q => ?_) d v hrv
    rcases q with (q | q) | q
    · exact .inl q
    · rw [new b q] at e; cases e
    · exact .inr q
end
end Mine
end
section
open PySem PySem.W PyProof.Rows PySem.Calls
open Sem (wp)
set_option Elab.async false
set_option linter.all false
set_option autoImplicit false
set_option maxRecDepth 100000
namespace Mine
theorem nodec₀ : NoDec (⟨.builtin "claim.caller" {}, none, none, [], none⟩ : PySem.Ctx) := ⟨okC_caller _, fun _ => rfl⟩
theorem thread_endsN {prog : Program} {w : World} {t : Sem Fin} {s : Shared} {R : Result → Shared → Prop} (hreg : s.asleep)
    (h : wpN (model prog w) callerA t (fun fin s' => ∃ f, fin = .done f ∧ (R (.ok f) s' ∧ leftWithCleanup s'.gens = false)) s) :
    ∃ n r s' s'', runN (denote table) prog w n s ⟨t, .builtin "claim.caller" {}, default, []⟩ = .halted (outcomeOf r) s' ∧
      schedN (denote table) prog w n (.single s ⟨t, .builtin "claim.caller" {}, default, []⟩) = .halted (outcomeOf r) s' ∧ s'.forget = s''.forget ∧ R r s'' := by
  have hw : wp (model prog w) ⟨.builtin "claim.caller" {}, none, none, [], none⟩ t (Sem.finPost (model prog w) ⟨.builtin "claim.caller" {}, none, none, [], none⟩ fun r s' => R r s' ∧ leftWithCleanup s'.gens = false) (fun e _ s' => R (.error e) s' ∧ leftWithCleanup s'.gens = false) default s := by
    refine Sem.wp_mono _ _ t (fun fin p' s' h' => ?_) (fun _ _ _ h' => h'.elim) default s (h _ default caller_in nodec₀)
    obtain ⟨f, rfl, hf⟩ := h'
    exact hf
  obtain ⟨n, r, s₁, s₂, hs, hn, hfo, hR⟩ := wp_halts_full (M := model prog w) (R := R) hreg hw
  exact ⟨n, r, s₂, s₁, hn, hs, hfo, hR⟩
theorem callFromN {c : ClaimW} {tree : List Value → Sem Fin} {w : World} {s : Shared} {free : Addr → Prop} {gens : Prop} {kept : Heap → Prop} (hz : s.asleep) (hgens : s.gens = #[])
    (hspec : ∀ args, c.pre args = true → WData.layableAll args = true → ∀ ord : List DictEntry → List DictEntry, (∀ l, (ord l).Perm l) →
      ∃ vs s₁, layAllW c.records (classAt s.heap) w.params ord args s = some (vs, s₁) ∧
        wpN (model c.prog w) callerA (tree vs) (fun fin s' => ∃ f, fin = .done f ∧ (c.Ends s args vs s₁ (.ok f) s' ∧ s'.os = s.os ∧ AllBare s'.gens ∧ kept s'.heap)) s₁) :
    c.CallFrom (fun vs => ⟨tree vs, .builtin "claim.caller" {}, default, []⟩) w free gens kept s := by
  intro args hpre hlay ord hord
  obtain ⟨vs, s₁, hlaid, hcode⟩ := hspec args hpre hlay ord hord
  have hal := layAllW_rest _ _ _ hlaid
  obtain ⟨k, r, s', s'', hrun, hsched, hfo, hcase, hos, hkp⟩ := thread_endsN (prog := c.prog) (w := w) (t := tree vs) (s := s₁) (R := fun r s' => c.Ends s args vs s₁ r s' ∧ s'.os = s.os ∧ kept s'.heap)
    (Shared.asleep_of_life hal.2.2.2 hz) (wpN_mono hcode fun fin s' ⟨f, e, h1, h2, h3, h4⟩ => ⟨f, e, ⟨h1, h2, h4⟩, leftWithCleanup_false_of_bare h3⟩)
  obtain ⟨eh, _, _, eo, _⟩ := Shared.forget_eq hfo
  have hcase := hcase.congr eh
  rw [← eh] at hkp
  rw [← eo] at hos
  have hlife : s'.heap.life = s.heap.life := (runN_life _ _ _ hrun).trans hal.2.2.2
  refine ⟨vs, s₁, hlaid, k, _, s', hsched, ?_, (fun _ i x hx => by rw [hgens] at hx; simp at hx), hkp, by rw [hlife], Shared.rest_eq hos⟩
  rcases hcase with ⟨v, rfl, d1, d2, d3, d4, d5⟩ | ⟨e, ob, cls, rfl, d1, d2, d3, d4, d5⟩
  · exact .inl ⟨v, rfl, d1, d2, d3, fun b o y _ => d4 b o y, d5⟩
  · exact .inr ⟨e, ob, cls, rfl, d1, d2, d3, d4, fun b o y _ => d5 b o y⟩
noncomputable abbrev WalkON (q : Program) (loose : List Str) (XP : (Str → Option Value) → Heap → Prop) (YP : World → Heap → Prop) (r : RowW) (d : DefRec) (kwd : List (Str × Expr)) : Prop :=
  ∀ (w : World) (s₀ s₁ : Shared) (mg mb : Str → Option Value), Ground q loose r.records XP w s₀ mg mb s₁.heap → YP w s₁.heap → ∀ (a : Addr) (o : Obj) (pm cd doc dV kV : Value), s₁.heap.get? a = some o →
    o.data = .func { docDef d.name d.params d.body d.scope pm cd doc with defaults := dV, kwdefaults := kV } → s₁.heap.CodeRec cd d.name → Dflts mg s₁.heap d.params kwd dV kV → mg d.name = some (.ref a) → s₁.gens = #[] →
    ∀ (args : List WData) (vals : List Value) (as : List Addr), r.claim.pre args = true → WData.layableAll args = true → ReadsAllW r.records (classAt s₀.heap) s₁.heap vals args as → WellAll w.params s₁.heap vals args → (∀ a ∈ as, (a == sysModules) = false) →
      wpN (model r.prog w) callerA (call (.ref a) vals) (fun v s' => GoodWG r.claim (classAt s₀.heap) (ExcName.means s₀.heap) args s₁ (.ok (.ret v)) s') s₁
end Mine
namespace Mine.PySem.W
theorem holds_open {r : OpenRow} {q : Program} {loose : List Str} {Xt : Shared → Bool} {XP : (Str → Option Value) → Heap → Prop} {α : Type} {Yf : Shared → α} {Ya : World → α} {YP : World → Heap → Prop} {d : DefRec} {kwd : List (Str × Expr)} {N : Nat}
    (left : LeftO r.prog q loose Xt Yf Ya N) (hY : ∀ w s, Yf s = Ya w → YP w s.heap) (hYk : ∀ w h h', YP w h → (∀ b o, h.get? b = some o → h'.get? b = some o) → YP w h')
    (hX : ∀ s, Xt s = true → XP (s.heap.nsMap mainGlobals) s.heap) (hXk : ∀ mg h h', XP mg h → (∀ b o, h.get? b = some o → h'.get? b = some o) → XP mg h')
    (hdef : defOf q r.name = some (d, kwd)) (hp : r.prog.theDef r.name = some (d.params, d.body, d.scope)) (hk : kwWritten? d.params.kwonlyargs d.params.kw_defaults = some kwd) (hRf : ∀ s, Xt s = true → RecFacts r.records s.heap) (hwr : (!r.writes || r.records.isEmpty) = true)
    (k1 : r.wellSaid = true) (ok : (chainsOk q && opensWell r.prog && (frees r.toRowW && r.within.isEmpty)) = true) (hb : r.prog.bare) (hw : r.toRowW.promised)
    (walk : WalkON q loose XP YP r.toRowW d kwd) : r.Holds := by
  obtain ⟨ok, k5⟩ := Bool.and_eq_true_iff.mp ok
  obtain ⟨hch, o1⟩ := Bool.and_eq_true_iff.mp ok
  obtain ⟨k5, k6⟩ := Bool.and_eq_true_iff.mp k5
  obtain ⟨hsame, hu, ha, hap, hm⟩ := frees_parts k5
  refine ⟨k1, hw, ⟨hb, o1, by show r.makers.map _ = []; rw [show r.makers = [] from hm]; rfl⟩, hw.witness, fun w => ⟨(left.behind hX hch w).1, fun s' hs' => ?_⟩⟩
  obtain ⟨s₀, hf, hg0, s, hT, hz, hgens, hg, G00, y⟩ := (left.behind (XP := fun mg h => XP mg h ∧ RecFacts r.records h) (fun s hs => ⟨hX s hs, hRf s hs⟩) hch w).2 s' hs'
  have G0 : Ground q loose [] XP w s (s.heap.nsMap mainGlobals) (s.heap.nsMap builtinsNs) s.heap := ⟨G00.T, G00.B, G00.D, G00.TE, G00.TD, G00.W, G00.X.1, G00.cls, G00.has, G00.apart, G00.once, G00.K⟩
  have RF := G00.X.2
  refine ⟨s₀, hf, hg0, s, hT, fun n hn => ?_, RF.1, RF.2.1, ?_⟩
  · obtain rfl : n = r.name := by split at hn <;> simp_all
    exact pinned_of_view hg G0 hdef hp hk
  have hgens : s.gens = #[] := Array.eq_empty_of_size_eq_zero (beq_iff_eq.mp hgens)
  have G : Ground q loose r.records XP w s _ _ s.heap := RF.ground G0
  refine callFromN (c := r.toRowW.claim) hz hgens fun args hpre hlay ord hord => ?_
  obtain ⟨⟨vs, s₁⟩, hlaid⟩ := Option.isSome_iff_exists.mp (layAllW_isSome (P := w.params) (ord := ord) G.has args r.args s (pre_splitW hpre).1)
  have keeps := layAllW_keeps _ _ _ hlaid
  have hal := layAllW_rest _ _ _ hlaid
  obtain ⟨as, hrd, hin, hold⟩ := reads_layAllW hord _ _ _ hlaid hlay s₁.heap (fun _ _ e => e)
  have L : Laid r.records w s s₁ args vs as := ⟨⟨ord, hord, hlaid⟩, hrd, hin, hold, keeps, hal.1.trans hgens, hal.2.2.1⟩
  have G₁ := G.keeps hXk keeps
  obtain ⟨a, o, pm, cd, doc, dV, kV, h1, h2, h3, h4, h5⟩ := G₁.fn hdef
  have hi := ident_freeW hu ha hap
  have hwi : r.toRowW.claim.within = [] := List.isEmpty_iff.mp k6
  have call := walk w s s₁ _ _ G₁ (hYk _ _ _ (hY w s y) keeps) a o pm cd doc dV kV h2 h3 h4 h5 (defOf_name hdef ▸ h1) L.gens args vs as hpre hlay L.reads L.well (L.low G.low)
  refine ⟨vs, s₁, hlaid, wpN_any_bind (wpAny_nsGet G₁.T.g ?_)⟩
  rw [h1]
  refine wpN_bind (wpN_mono call fun v s' g => wpN_pure ⟨_, rfl, ?_⟩)
  have z := g.laid (c := r.toRowW.claim) hsame hwi hi L
  exact ⟨z.1, z.2.1, z.2.2, fun q => ⟨namesKept_of hT hg _ keeps g.2.1.old, noTable hwr q⟩⟩
end Mine.PySem.W
end
section
open PySem PySem.W PyProof.Rows PySem.Calls
open Sem (wp)
set_option Elab.async false
set_option linter.all false
set_option autoImplicit false
set_option maxRecDepth 100000
namespace Mine
section
variable {Ω : Wd} {n : Nat}
theorem top_call {f : Addr} {fd : FuncData} {is : List Nat} {body : List Stmt} {t : TS} (K : FnK Ω f fd is body) (hb : ∀ L outer O, EXsN Ω n (fctx fd f L outer O) body t) {s : Shared} {ds : List D} {vs : List Value}
    (hs : s.heap = Ω.base) (rv : Reps (fun _ => False) s.heap ds vs) (hn : n ≤ 50) {Qd : D → Prop} (hq : fSpec is t ds Qd (fun _ => False)) :
    wpN (model Ω.prog Ω.w) callerA (call (.ref f) vs) (fun v s' => ∃ d h tk, s' = { s with heap := h, toks := tk } ∧ (∀ b o, s.heap.get? b = some o → h.get? b = some o) ∧ Rep (fun _ => False) h d v ∧ Qd d) s := by
  obtain ⟨hlen, hq⟩ := hq
  have hX : Ω.K.In s.heap := hs ▸ Ω.X
  have hT := Ω.T
  rw [← hs] at hT
  refine wpN_call (codeN_call_cells (fd := fd) (binds := (is.map nm).zip vs) (by decide) (hX _ _ K.obj) rfl hT.nolimit (codeRec_of hX K.code) K.bodyE (K.bind vs (by rw [rv.length, hlen])) K.clo ?_ ?_ K.co K.gen K.kind)
  · intro x hx
    obtain ⟨i, hi, e⟩ := List.mem_map.mp (List.of_mem_zip hx).1
    rcases K.params i hi with q | q
    · exact .inl (e ▸ q)
    · exact .inr (e ▸ ⟨q, cellsFrom_some _ _ _ (.inl q)⟩)
  intro s₁ x
  have nL : Ω.base.objs.size ≤ s.heap.objs.size := by rw [hs]; exact Nat.le_refl _
  generalize hL : s.heap.objs.size = L at x ⊢
  let c' := fctx fd f L [] (fun _ => False)
  have hnd : (c'.env.cells.map (·.1)).Nodup := by
    have := K.names
    rw [cellsFrom_names fd.scope.names 0 (L + 1) [] [] rfl] at this
    exact this
  have cellAt : ∀ y ∈ c'.env.cells, s₁.heap.IsCell y.2 (bindC (callEnvC fd L f).kindOf ((is.map nm).zip vs) (fun _ => none) y.1) ∧ L < y.2 := fun y hy =>
    ⟨x.cell _ _ (lookup_of_mem_nodup hnd hy), x.above _ _ hy⟩
  obtain ⟨h₁, tk₁, rfl⟩ := x.toInCall.same
  have st : ∀ b o, s.heap.get? b = some o → h₁.get? b = some o := x.toInCall.keep
  let W' : Addr → Prop := fun b => b = L ∨ ∃ y ∈ c'.env.cells, y.2 = b
  have aboveW : ∀ b, W' b → L ≤ b := fun b hb => by
    rcases hb with rfl | ⟨y, hy, rfl⟩
    · exact Nat.le_refl _
    · exact Nat.le_of_lt (cellAt y hy).2
  have newW : ∀ b o, W' b → s.heap.get? b = some o → False := fun b o hb e => absurd (Heap.lt_size e) (Nat.not_lt.mpr (hL ▸ aboveW b hb))
  have noF : ∀ b, ¬ c'.F b := fun b ⟨ev, hev, _⟩ => by cases hev
  have I' : Iv Ω c' W' (bindR is ds) h₁ := by
    refine ⟨fun b o e => st b o (hs ▸ e), fun b hb => Nat.le_trans (hL ▸ nL) (aboveW b hb), ⟨_, x.toInCall.ns⟩, .inl rfl, .inl rfl, fun y hy => .inr ⟨y, hy, rfl⟩, fun y hy => ?_, fun y hy => ⟨_, (cellAt y hy).1⟩, fun b hb q => noF b q, fun b q => (noF b q).elim, fun b hb => ?_, x.apart, rfl, K.kind, K.glob, K.blt, fun ev hev => ?_, ?_⟩
    · have := (cellAt y hy).2
      have h1 : c'.L = L := rfl
      have h2 : c'.env.locals = L := rfl
      rw [h1, h2]
      exact ⟨Nat.ne_of_gt this, Nat.ne_of_gt this⟩
    · rcases hb with (rfl | ⟨y, hy, rfl⟩) | hb
      · obtain ⟨o, _, _, ho, _⟩ := x.toInCall.ns
        exact ⟨o, ho⟩
      · obtain ⟨o, ho, _⟩ := (cellAt y hy).1
        exact ⟨o, ho⟩
      · exact hb.elim
    · cases hev with
      | head =>
        obtain ⟨o, es, ep, ho, hd, _⟩ := x.toInCall.ns
        exact ⟨(by show fd.scope.kind ≠ .module; rw [K.kind]; decide), L, o, rfl, ho, (fun vs q => by rw [hd] at q; cases q), hL ▸ nL⟩
      | tail _ hev => cases hev
    · have rv' : Reps (fun b => False ∨ W' b) h₁ ds vs := Reps.ext (W := fun _ => False) (F := fun _ => False) (.of_keep fun b o _ e => st b o e) (fun _ q => q.elim) (fun b o e q => q.elim id fun w => (newW b o w e).elim) ds vs rv
      refine ⟨_, fun _ => 0, x.toInCall.ns, fun j sl hj => ?_, fun i j ds' es hi => ?_⟩
      · obtain ⟨d, v, rfl, hji, hr, h1, h2⟩ := bind_vars (callEnvC fd L f).kindOf is ds vs K.nodup K.small rv' hlen.symm j sl hj
        refine ⟨K.small j hji, v, ?_, hr⟩
        rcases K.params j hji with q | q
        · exact .inl ⟨q, h1 _ q⟩
        · obtain ⟨ad, had⟩ := Option.isSome_iff_exists.mp (cellsFrom_some fd.scope.names (L + 1) [] (.inl q))
          have hnl : (callEnvC fd L f).kindOf (nm j) ≠ some .local := fun z => by
            have : (callEnvC fd L f).kindOf (nm j) = some .cell := q
            rw [this] at z; cases z
          exact .inr ⟨.inl q, ad, had, by have := x.cell _ _ had; rwa [h2 _ hnl] at this⟩
      · obtain ⟨_, _, q, _⟩ := bind_vars (callEnvC fd L f).kindOf is ds vs K.nodup K.small rv' hlen.symm i _ hi
        cases q
  have hdp : callerA.depth + 1 + 60 + 50 < recursionLimit := by decide
  have hun : callerA.units + 3 + 100 + 8 * 50 < cLine := by decide
  have a' : AOk c' n (callerA.deeper (callEnvC fd L f)) := by
    refine ⟨rfl, Around.frames_deeper (outer := []) rfl, ?_, ?_⟩
    · show callerA.depth + 1 + 60 + n < _
      omega
    · show callerA.units + 3 + 100 + 8 * n < _
      omega
  refine wpN_mono (hb L [] (fun _ => False) _ W' _ _ _ a' I' hq) fun fl s' p => ?_
  obtain ⟨W'', ρ'', h₂, tk₂, g, rfl, x2, g2, I2, r2, d, rfl, hd⟩ := p
  obtain ⟨v, rfl, hr⟩ := r2
  exact ⟨_, rfl, d, h₂, tk₂, rfl, fun b o e => I2.keep b o (hs ▸ e), hr, hd⟩
end
end Mine
end
section
open PySem PySem.W PyProof.Rows PySem.Calls
set_option Elab.async false
set_option linter.all false
set_option autoImplicit false
set_option maxRecDepth 100000
namespace Mine
section
noncomputable def kt (s : String) (n : Nat) : Value := .str (Str.ofString s) n
noncomputable def kr (n : Nat) : Value := .ref n
noncomputable def ki (i : Int) (n : Nat) : Value := .int i n
noncomputable def ke (P : Params) (s : String) (n : Nat) (v : Value) : DictEntry := .mk (PyData.keyHash P (Str.ofString s)) (.str (Str.ofString s) n) v
noncomputable def kc (vs : List Value) : Obj := .mk (.type "code") none (.fields vs.toArray) (List.toArray [])
noncomputable def bodyOf (fd : FuncData) : List Stmt := match fd.body with | .stmts b => b | _ => []
noncomputable def atS : List Stmt → Nat → Stmt
  | s :: _, 0 => s
  | _ :: r, n + 1 => atS r n
  | [], _ => .Pass default
noncomputable def sM (i : Nat) : Stmt := atS PySem.Challenge.pw_im0070_01.main.body i
noncomputable def sC (i j : Nat) : Stmt := match sM i with | .ClassDef _ _ _ b _ _ _ _ _ _ _ => atS b j | s => s
noncomputable def fdS (s : Stmt) (q m : String) (t : Nat) (cd : Addr) : FuncData := match s with
  | .FunctionDef n ps b _ _ _ sc _ _ _ => .mk n (Str.ofString q) ps (.stmts b) sc 3 [] .none .none .none (kt m t) none (kr cd) .none 0
  | _ => default
noncomputable def es3 (P : Params) : List DictEntry := [(ke P "__name__" 165 (kt "law_im0070_01" 744)), (ke P "__doc__" 166 .none), (ke P "__package__" 167 .none), (ke P "__loader__" 168 (.builtin "__main__.__loader__#opaque")), (ke P "__spec__" 169 .none), (ke P "__annotations__" 170 (kr 6)), (ke P "__builtins__" 171 (kr 4)), (ke P "__file__" 173 (kt "/claim/cut.py" 172)), (ke P "__cached__" 174 .none), (ke P "I" 335 (kr 122)), (ke P "U" 530 (kr 269)), (ke P "i8" 571 (kr 275)), (ke P "u8" 601 (kr 278)), (ke P "i16" 642 (kr 281)), (ke P "u16" 672 (kr 284)), (ke P "i64" 713 (kr 287)), (ke P "u64" 743 (kr 290)), (ke P "_law_kinds" 751 (kr 298)), (ke P "_law_names" 757 (kr 305)), (ke P "_law_small" 764 (kr 312)), (ke P "_law_row" 770 (kr 317)), (ke P "_law_number" 779 (kr 324)), (ke P "_law_grown" 788 (kr 331)), (ke P "_law_clamped" 797 (kr 338)), (ke P "_law_sum" 808 (kr 345)), (ke P "_law_minus" 814 (kr 350)), (ke P "_law_product" 820 (kr 355)), (ke P "_law_divided" 833 (kr 362)), (ke P "_law_packed" 839 (kr 367)), (ke P "_law_quotient" 852 (kr 374)), (ke P "_law_due" 858 (kr 379)), (ke P "_law_told" 868 (kr 386)), (ke P "_law_refused" 880 (kr 393)), (ke P "law" 905 (kr 400))]
noncomputable def fd28 : FuncData := fdS (sC 1 0) "I.__init__" "pywasm.arith" 187 27
noncomputable def fd35 : FuncData := fdS (sC 1 1) "I.from_bytearray" "pywasm.arith" 187 34
noncomputable def fd42 : FuncData := fdS (sC 1 2) "I.into_bytearray" "pywasm.arith" 187 41
noncomputable def fd49 : FuncData := fdS (sC 1 3) "I.fit" "pywasm.arith" 187 48
noncomputable def fd56 : FuncData := fdS (sC 1 4) "I.sat" "pywasm.arith" 187 55
noncomputable def fd63 : FuncData := fdS (sC 1 5) "I.add" "pywasm.arith" 187 62
noncomputable def fd70 : FuncData := fdS (sC 1 6) "I.add_sat" "pywasm.arith" 187 69
noncomputable def fd77 : FuncData := fdS (sC 1 7) "I.sub" "pywasm.arith" 187 76
noncomputable def fd84 : FuncData := fdS (sC 1 8) "I.sub_sat" "pywasm.arith" 187 83
noncomputable def fd91 : FuncData := fdS (sC 1 9) "I.mul" "pywasm.arith" 187 90
noncomputable def fd98 : FuncData := fdS (sC 1 10) "I.div" "pywasm.arith" 187 97
noncomputable def fd105 : FuncData := fdS (sC 1 11) "I.rem" "pywasm.arith" 187 104
noncomputable def fd112 : FuncData := fdS (sC 1 12) "I.shl" "pywasm.arith" 187 111
noncomputable def fd119 : FuncData := fdS (sC 1 13) "I.shr" "pywasm.arith" 187 118
noncomputable def es121 (P : Params) : List DictEntry := [(ke P "__module__" 196 (kt "pywasm.arith" 187)), (ke P "__firstlineno__" 200 (ki 2 199)), (ke P "__init__" 208 (kr 28)), (ke P "from_bytearray" 216 (kr 35)), (ke P "into_bytearray" 224 (kr 42)), (ke P "fit" 232 (kr 49)), (ke P "sat" 240 (kr 56)), (ke P "add" 249 (kr 63)), (ke P "add_sat" 258 (kr 70)), (ke P "sub" 267 (kr 77)), (ke P "sub_sat" 276 (kr 84)), (ke P "mul" 285 (kr 91)), (ke P "div" 294 (kr 98)), (ke P "rem" 303 (kr 105)), (ke P "shl" 312 (kr 112)), (ke P "shr" 321 (kr 119)), (ke P "__static_attributes__" 328 (kr 120)), (ke P "__dict__" 330 (kr 123)), (ke P "__weakref__" 332 (kr 124)), (ke P "__doc__" 333 .none)]
noncomputable def fd140 : FuncData := fdS (sC 2 0) "U.__init__" "pywasm.arith" 187 139
noncomputable def fd147 : FuncData := fdS (sC 2 1) "U.from_bytearray" "pywasm.arith" 187 146
noncomputable def fd154 : FuncData := fdS (sC 2 2) "U.into_bytearray" "pywasm.arith" 187 153
noncomputable def fd161 : FuncData := fdS (sC 2 3) "U.fit" "pywasm.arith" 187 160
noncomputable def fd168 : FuncData := fdS (sC 2 4) "U.sat" "pywasm.arith" 187 167
noncomputable def fd175 : FuncData := fdS (sC 2 5) "U.add" "pywasm.arith" 187 174
noncomputable def fd182 : FuncData := fdS (sC 2 6) "U.add_sat" "pywasm.arith" 187 181
noncomputable def fd189 : FuncData := fdS (sC 2 7) "U.sub" "pywasm.arith" 187 188
noncomputable def fd196 : FuncData := fdS (sC 2 8) "U.sub_sat" "pywasm.arith" 187 195
noncomputable def fd203 : FuncData := fdS (sC 2 9) "U.mul" "pywasm.arith" 187 202
noncomputable def fd210 : FuncData := fdS (sC 2 10) "U.div" "pywasm.arith" 187 209
noncomputable def fd217 : FuncData := fdS (sC 2 11) "U.rem" "pywasm.arith" 187 216
noncomputable def fd224 : FuncData := fdS (sC 2 12) "U.shl" "pywasm.arith" 187 223
noncomputable def fd231 : FuncData := fdS (sC 2 13) "U.shr" "pywasm.arith" 187 230
noncomputable def fd238 : FuncData := fdS (sC 2 14) "U.rotl" "pywasm.arith" 187 237
noncomputable def fd245 : FuncData := fdS (sC 2 15) "U.rotr" "pywasm.arith" 187 244
noncomputable def fd252 : FuncData := fdS (sC 2 16) "U.clz" "pywasm.arith" 187 251
noncomputable def fd259 : FuncData := fdS (sC 2 17) "U.ctz" "pywasm.arith" 187 258
noncomputable def fd266 : FuncData := fdS (sC 2 18) "U.popcnt" "pywasm.arith" 187 265
noncomputable def es268 (P : Params) : List DictEntry := [(ke P "__module__" 343 (kt "pywasm.arith" 187)), (ke P "__firstlineno__" 347 (ki 54 346)), (ke P "__init__" 355 (kr 140)), (ke P "from_bytearray" 363 (kr 147)), (ke P "into_bytearray" 371 (kr 154)), (ke P "fit" 379 (kr 161)), (ke P "sat" 387 (kr 168)), (ke P "add" 396 (kr 175)), (ke P "add_sat" 405 (kr 182)), (ke P "sub" 414 (kr 189)), (ke P "sub_sat" 423 (kr 196)), (ke P "mul" 432 (kr 203)), (ke P "div" 441 (kr 210)), (ke P "rem" 450 (kr 217)), (ke P "shl" 459 (kr 224)), (ke P "shr" 468 (kr 231)), (ke P "rotl" 477 (kr 238)), (ke P "rotr" 486 (kr 245)), (ke P "clz" 496 (kr 252)), (ke P "ctz" 506 (kr 259)), (ke P "popcnt" 516 (kr 266)), (ke P "__static_attributes__" 523 (kr 267)), (ke P "__dict__" 525 (kr 270)), (ke P "__weakref__" 527 (kr 271)), (ke P "__doc__" 528 .none)]
noncomputable def es274 (P : Params) : List DictEntry := [(ke P "bits_length" 537 (ki 8 535)), (ke P "byte_length" 539 (ki 1 531)), (ke P "mask" 546 (ki 255 544)), (ke P "mask_sign" 553 (ki 128 551)), (ke P "max" 562 (ki 127 560)), (ke P "min" 570 (ki (-128) 568))]
noncomputable def es277 (P : Params) : List DictEntry := [(ke P "bits_length" 578 (ki 8 576)), (ke P "byte_length" 580 (ki 1 572)), (ke P "mask" 587 (ki 255 585)), (ke P "mask_sign" 594 (ki 128 592)), (ke P "max" 597 (ki 255 585)), (ke P "min" 600 (ki 0 598))]
noncomputable def es280 (P : Params) : List DictEntry := [(ke P "bits_length" 608 (ki 16 606)), (ke P "byte_length" 610 (ki 2 602)), (ke P "mask" 617 (ki 65535 615)), (ke P "mask_sign" 624 (ki 32768 622)), (ke P "max" 633 (ki 32767 631)), (ke P "min" 641 (ki (-32768) 639))]
noncomputable def es283 (P : Params) : List DictEntry := [(ke P "bits_length" 649 (ki 16 647)), (ke P "byte_length" 651 (ki 2 643)), (ke P "mask" 658 (ki 65535 656)), (ke P "mask_sign" 665 (ki 32768 663)), (ke P "max" 668 (ki 65535 656)), (ke P "min" 671 (ki 0 669))]
noncomputable def es286 (P : Params) : List DictEntry := [(ke P "bits_length" 679 (ki 64 677)), (ke P "byte_length" 681 (ki 8 673)), (ke P "mask" 688 (ki 18446744073709551615 686)), (ke P "mask_sign" 695 (ki 9223372036854775808 693)), (ke P "max" 704 (ki 9223372036854775807 702)), (ke P "min" 712 (ki (-9223372036854775808) 710))]
noncomputable def es289 (P : Params) : List DictEntry := [(ke P "bits_length" 720 (ki 64 718)), (ke P "byte_length" 722 (ki 8 714)), (ke P "mask" 729 (ki 18446744073709551615 727)), (ke P "mask_sign" 736 (ki 9223372036854775808 734)), (ke P "max" 739 (ki 18446744073709551615 727)), (ke P "min" 742 (ki 0 740))]
noncomputable def fd298 : FuncData := fdS (sM 10) "_law_kinds" "law_im0070_01" 744 297
noncomputable def fd305 : FuncData := fdS (sM 11) "_law_names" "law_im0070_01" 744 304
noncomputable def fd312 : FuncData := fdS (sM 12) "_law_small" "law_im0070_01" 744 311
noncomputable def fd317 : FuncData := fdS (sM 13) "_law_row" "law_im0070_01" 744 316
noncomputable def fd324 : FuncData := fdS (sM 14) "_law_number" "law_im0070_01" 744 323
noncomputable def fd331 : FuncData := fdS (sM 15) "_law_grown" "law_im0070_01" 744 330
noncomputable def fd338 : FuncData := fdS (sM 16) "_law_clamped" "law_im0070_01" 744 337
noncomputable def fd345 : FuncData := fdS (sM 17) "_law_sum" "law_im0070_01" 744 344
noncomputable def fd350 : FuncData := fdS (sM 18) "_law_minus" "law_im0070_01" 744 349
noncomputable def fd355 : FuncData := fdS (sM 19) "_law_product" "law_im0070_01" 744 354
noncomputable def fd362 : FuncData := fdS (sM 20) "_law_divided" "law_im0070_01" 744 361
noncomputable def fd367 : FuncData := fdS (sM 21) "_law_packed" "law_im0070_01" 744 366
noncomputable def fd374 : FuncData := fdS (sM 22) "_law_quotient" "law_im0070_01" 744 373
noncomputable def fd379 : FuncData := fdS (sM 23) "_law_due" "law_im0070_01" 744 378
noncomputable def fd386 : FuncData := fdS (sM 24) "_law_told" "law_im0070_01" 744 385
noncomputable def fd393 : FuncData := fdS (sM 25) "_law_refused" "law_im0070_01" 744 392
noncomputable def fd400 : FuncData := fdS (sM 26) "law" "law_im0070_01" 744 399
noncomputable def K0 (P : Params) : Frag := [
  (2, (.mk .none none (.dict (List.toArray []) 0) (List.toArray (α := Option Value) []))),
  (3, dictOf (es3 P) 34),
  (27, kc [(kt "__init__" 201), (kt "I.__init__" 202), (kt "/claim/cut.py" 203), (ki 4 0), (ki 2 0), (ki 0 0), (ki 0 0), (ki 3 0), (kr 22), (.bool true), (ki 181 0), (kr 23), .none, (kr 24), (kr 25), (kr 26), (ki 206 0), (ki 4 0), (kt "/claim/cut.py" 207)]),
  (28, fobj fd28),
  (34, kc [(kt "from_bytearray" 209), (kt "I.from_bytearray" 210), (kt "/claim/cut.py" 211), (ki 12 0), (ki 2 0), (ki 0 0), (ki 0 0), (ki 3 0), (kr 29), (.bool true), (ki 181 0), (kr 30), .none, (kr 31), (kr 32), (kr 33), (ki 214 0), (ki 12 0), (kt "/claim/cut.py" 215)]),
  (35, fobj fd35),
  (41, kc [(kt "into_bytearray" 217), (kt "I.into_bytearray" 218), (kt "/claim/cut.py" 219), (ki 16 0), (ki 2 0), (ki 0 0), (ki 0 0), (ki 3 0), (kr 36), (.bool true), (ki 181 0), (kr 37), .none, (kr 38), (kr 39), (kr 40), (ki 222 0), (ki 16 0), (kt "/claim/cut.py" 223)]),
  (42, fobj fd42),
  (48, kc [(kt "fit" 225), (kt "I.fit" 226), (kt "/claim/cut.py" 227), (ki 19 0), (ki 2 0), (ki 0 0), (ki 0 0), (ki 3 0), (kr 43), (.bool true), (ki 181 0), (kr 44), .none, (kr 45), (kr 46), (kr 47), (ki 230 0), (ki 19 0), (kt "/claim/cut.py" 231)]),
  (49, fobj fd49),
  (55, kc [(kt "sat" 233), (kt "I.sat" 234), (kt "/claim/cut.py" 235), (ki 24 0), (ki 2 0), (ki 0 0), (ki 0 0), (ki 3 0), (kr 50), (.bool true), (ki 181 0), (kr 51), .none, (kr 52), (kr 53), (kr 54), (ki 238 0), (ki 24 0), (kt "/claim/cut.py" 239)]),
  (56, fobj fd56),
  (62, kc [(kt "add" 241), (kt "I.add" 242), (kt "/claim/cut.py" 243), (ki 27 0), (ki 3 0), (ki 0 0), (ki 0 0), (ki 3 0), (kr 57), (.bool true), (ki 181 0), (kr 58), .none, (kr 59), (kr 60), (kr 61), (ki 247 0), (ki 27 0), (kt "/claim/cut.py" 248)]),
  (63, fobj fd63),
  (69, kc [(kt "add_sat" 250), (kt "I.add_sat" 251), (kt "/claim/cut.py" 252), (ki 30 0), (ki 3 0), (ki 0 0), (ki 0 0), (ki 3 0), (kr 64), (.bool true), (ki 181 0), (kr 65), .none, (kr 66), (kr 67), (kr 68), (ki 256 0), (ki 30 0), (kt "/claim/cut.py" 257)]),
  (70, fobj fd70),
  (76, kc [(kt "sub" 259), (kt "I.sub" 260), (kt "/claim/cut.py" 261), (ki 33 0), (ki 3 0), (ki 0 0), (ki 0 0), (ki 3 0), (kr 71), (.bool true), (ki 181 0), (kr 72), .none, (kr 73), (kr 74), (kr 75), (ki 265 0), (ki 33 0), (kt "/claim/cut.py" 266)]),
  (77, fobj fd77),
  (83, kc [(kt "sub_sat" 268), (kt "I.sub_sat" 269), (kt "/claim/cut.py" 270), (ki 36 0), (ki 3 0), (ki 0 0), (ki 0 0), (ki 3 0), (kr 78), (.bool true), (ki 181 0), (kr 79), .none, (kr 80), (kr 81), (kr 82), (ki 274 0), (ki 36 0), (kt "/claim/cut.py" 275)]),
  (84, fobj fd84),
  (90, kc [(kt "mul" 277), (kt "I.mul" 278), (kt "/claim/cut.py" 279), (ki 39 0), (ki 3 0), (ki 0 0), (ki 0 0), (ki 3 0), (kr 85), (.bool true), (ki 181 0), (kr 86), .none, (kr 87), (kr 88), (kr 89), (ki 283 0), (ki 39 0), (kt "/claim/cut.py" 284)]),
  (91, fobj fd91),
  (97, kc [(kt "div" 286), (kt "I.div" 287), (kt "/claim/cut.py" 288), (ki 42 0), (ki 3 0), (ki 0 0), (ki 0 0), (ki 3 0), (kr 92), (.bool true), (ki 181 0), (kr 93), .none, (kr 94), (kr 95), (kr 96), (ki 292 0), (ki 42 0), (kt "/claim/cut.py" 293)]),
  (98, fobj fd98),
  (104, kc [(kt "rem" 295), (kt "I.rem" 296), (kt "/claim/cut.py" 297), (ki 46 0), (ki 3 0), (ki 0 0), (ki 0 0), (ki 3 0), (kr 99), (.bool true), (ki 181 0), (kr 100), .none, (kr 101), (kr 102), (kr 103), (ki 301 0), (ki 46 0), (kt "/claim/cut.py" 302)]),
  (105, fobj fd105),
  (111, kc [(kt "shl" 304), (kt "I.shl" 305), (kt "/claim/cut.py" 306), (ki 49 0), (ki 3 0), (ki 0 0), (ki 0 0), (ki 3 0), (kr 106), (.bool true), (ki 181 0), (kr 107), .none, (kr 108), (kr 109), (kr 110), (ki 310 0), (ki 49 0), (kt "/claim/cut.py" 311)]),
  (112, fobj fd112),
  (118, kc [(kt "shr" 313), (kt "I.shr" 314), (kt "/claim/cut.py" 315), (ki 52 0), (ki 3 0), (ki 0 0), (ki 0 0), (ki 3 0), (kr 113), (.bool true), (ki 181 0), (kr 114), .none, (kr 115), (kr 116), (kr 117), (ki 319 0), (ki 52 0), (kt "/claim/cut.py" 320)]),
  (119, fobj fd119),
  (121, dictOf (es121 P) 4),
  (122, (.mk (.type "type") none (.cls (.mk (Str.ofString "I") [(.type "object")] [(kr 122), (.type "object")] 121 (Str.ofString "I") true [] [] false none false)) (List.toArray (α := Option Value) [none, none, (some (kt "I" 189)), (some (kt "I" 197)), (some (.builtin "object.__new__")), (some (.bool true))]))),
  (139, kc [(kt "__init__" 348), (kt "U.__init__" 349), (kt "/claim/cut.py" 350), (ki 56 0), (ki 2 0), (ki 0 0), (ki 0 0), (ki 3 0), (kr 134), (.bool true), (ki 181 0), (kr 135), .none, (kr 136), (kr 137), (kr 138), (ki 353 0), (ki 56 0), (kt "/claim/cut.py" 354)]),
  (140, fobj fd140),
  (146, kc [(kt "from_bytearray" 356), (kt "U.from_bytearray" 357), (kt "/claim/cut.py" 358), (ki 64 0), (ki 2 0), (ki 0 0), (ki 0 0), (ki 3 0), (kr 141), (.bool true), (ki 181 0), (kr 142), .none, (kr 143), (kr 144), (kr 145), (ki 361 0), (ki 64 0), (kt "/claim/cut.py" 362)]),
  (147, fobj fd147),
  (153, kc [(kt "into_bytearray" 364), (kt "U.into_bytearray" 365), (kt "/claim/cut.py" 366), (ki 68 0), (ki 2 0), (ki 0 0), (ki 0 0), (ki 3 0), (kr 148), (.bool true), (ki 181 0), (kr 149), .none, (kr 150), (kr 151), (kr 152), (ki 369 0), (ki 68 0), (kt "/claim/cut.py" 370)]),
  (154, fobj fd154),
  (160, kc [(kt "fit" 372), (kt "U.fit" 373), (kt "/claim/cut.py" 374), (ki 71 0), (ki 2 0), (ki 0 0), (ki 0 0), (ki 3 0), (kr 155), (.bool true), (ki 181 0), (kr 156), .none, (kr 157), (kr 158), (kr 159), (ki 377 0), (ki 71 0), (kt "/claim/cut.py" 378)]),
  (161, fobj fd161),
  (167, kc [(kt "sat" 380), (kt "U.sat" 381), (kt "/claim/cut.py" 382), (ki 74 0), (ki 2 0), (ki 0 0), (ki 0 0), (ki 3 0), (kr 162), (.bool true), (ki 181 0), (kr 163), .none, (kr 164), (kr 165), (kr 166), (ki 385 0), (ki 74 0), (kt "/claim/cut.py" 386)]),
  (168, fobj fd168),
  (174, kc [(kt "add" 388), (kt "U.add" 389), (kt "/claim/cut.py" 390), (ki 77 0), (ki 3 0), (ki 0 0), (ki 0 0), (ki 3 0), (kr 169), (.bool true), (ki 181 0), (kr 170), .none, (kr 171), (kr 172), (kr 173), (ki 394 0), (ki 77 0), (kt "/claim/cut.py" 395)]),
  (175, fobj fd175),
  (181, kc [(kt "add_sat" 397), (kt "U.add_sat" 398), (kt "/claim/cut.py" 399), (ki 80 0), (ki 3 0), (ki 0 0), (ki 0 0), (ki 3 0), (kr 176), (.bool true), (ki 181 0), (kr 177), .none, (kr 178), (kr 179), (kr 180), (ki 403 0), (ki 80 0), (kt "/claim/cut.py" 404)]),
  (182, fobj fd182),
  (188, kc [(kt "sub" 406), (kt "U.sub" 407), (kt "/claim/cut.py" 408), (ki 83 0), (ki 3 0), (ki 0 0), (ki 0 0), (ki 3 0), (kr 183), (.bool true), (ki 181 0), (kr 184), .none, (kr 185), (kr 186), (kr 187), (ki 412 0), (ki 83 0), (kt "/claim/cut.py" 413)]),
  (189, fobj fd189),
  (195, kc [(kt "sub_sat" 415), (kt "U.sub_sat" 416), (kt "/claim/cut.py" 417), (ki 86 0), (ki 3 0), (ki 0 0), (ki 0 0), (ki 3 0), (kr 190), (.bool true), (ki 181 0), (kr 191), .none, (kr 192), (kr 193), (kr 194), (ki 421 0), (ki 86 0), (kt "/claim/cut.py" 422)]),
  (196, fobj fd196),
  (202, kc [(kt "mul" 424), (kt "U.mul" 425), (kt "/claim/cut.py" 426), (ki 89 0), (ki 3 0), (ki 0 0), (ki 0 0), (ki 3 0), (kr 197), (.bool true), (ki 181 0), (kr 198), .none, (kr 199), (kr 200), (kr 201), (ki 430 0), (ki 89 0), (kt "/claim/cut.py" 431)]),
  (203, fobj fd203),
  (209, kc [(kt "div" 433), (kt "U.div" 434), (kt "/claim/cut.py" 435), (ki 92 0), (ki 3 0), (ki 0 0), (ki 0 0), (ki 3 0), (kr 204), (.bool true), (ki 181 0), (kr 205), .none, (kr 206), (kr 207), (kr 208), (ki 439 0), (ki 92 0), (kt "/claim/cut.py" 440)]),
  (210, fobj fd210),
  (216, kc [(kt "rem" 442), (kt "U.rem" 443), (kt "/claim/cut.py" 444), (ki 95 0), (ki 3 0), (ki 0 0), (ki 0 0), (ki 3 0), (kr 211), (.bool true), (ki 181 0), (kr 212), .none, (kr 213), (kr 214), (kr 215), (ki 448 0), (ki 95 0), (kt "/claim/cut.py" 449)]),
  (217, fobj fd217),
  (223, kc [(kt "shl" 451), (kt "U.shl" 452), (kt "/claim/cut.py" 453), (ki 98 0), (ki 3 0), (ki 0 0), (ki 0 0), (ki 3 0), (kr 218), (.bool true), (ki 181 0), (kr 219), .none, (kr 220), (kr 221), (kr 222), (ki 457 0), (ki 98 0), (kt "/claim/cut.py" 458)]),
  (224, fobj fd224),
  (230, kc [(kt "shr" 460), (kt "U.shr" 461), (kt "/claim/cut.py" 462), (ki 101 0), (ki 3 0), (ki 0 0), (ki 0 0), (ki 3 0), (kr 225), (.bool true), (ki 181 0), (kr 226), .none, (kr 227), (kr 228), (kr 229), (ki 466 0), (ki 101 0), (kt "/claim/cut.py" 467)]),
  (231, fobj fd231),
  (237, kc [(kt "rotl" 469), (kt "U.rotl" 470), (kt "/claim/cut.py" 471), (ki 104 0), (ki 3 0), (ki 0 0), (ki 0 0), (ki 3 0), (kr 232), (.bool true), (ki 181 0), (kr 233), .none, (kr 234), (kr 235), (kr 236), (ki 475 0), (ki 104 0), (kt "/claim/cut.py" 476)]),
  (238, fobj fd238),
  (244, kc [(kt "rotr" 478), (kt "U.rotr" 479), (kt "/claim/cut.py" 480), (ki 108 0), (ki 3 0), (ki 0 0), (ki 0 0), (ki 3 0), (kr 239), (.bool true), (ki 181 0), (kr 240), .none, (kr 241), (kr 242), (kr 243), (ki 484 0), (ki 108 0), (kt "/claim/cut.py" 485)]),
  (245, fobj fd245),
  (251, kc [(kt "clz" 487), (kt "U.clz" 488), (kt "/claim/cut.py" 489), (ki 112 0), (ki 2 0), (ki 0 0), (ki 0 0), (ki 3 0), (kr 246), (.bool true), (ki 181 0), (kr 247), .none, (kr 248), (kr 249), (kr 250), (ki 494 0), (ki 112 0), (kt "/claim/cut.py" 495)]),
  (252, fobj fd252),
  (258, kc [(kt "ctz" 497), (kt "U.ctz" 498), (kt "/claim/cut.py" 499), (ki 121 0), (ki 2 0), (ki 0 0), (ki 0 0), (ki 3 0), (kr 253), (.bool true), (ki 181 0), (kr 254), .none, (kr 255), (kr 256), (kr 257), (ki 504 0), (ki 121 0), (kt "/claim/cut.py" 505)]),
  (259, fobj fd259),
  (265, kc [(kt "popcnt" 507), (kt "U.popcnt" 508), (kt "/claim/cut.py" 509), (ki 130 0), (ki 2 0), (ki 0 0), (ki 0 0), (ki 3 0), (kr 260), (.bool true), (ki 181 0), (kr 261), .none, (kr 262), (kr 263), (kr 264), (ki 514 0), (ki 130 0), (kt "/claim/cut.py" 515)]),
  (266, fobj fd266),
  (268, dictOf (es268 P) 4),
  (269, (.mk (.type "type") none (.cls (.mk (Str.ofString "U") [(.type "object")] [(kr 269), (.type "object")] 268 (Str.ofString "U") true [] [] false none false)) (List.toArray (α := Option Value) [none, none, (some (kt "U" 336)), (some (kt "U" 344)), (some (.builtin "object.__new__")), (some (.bool true))]))),
  (274, dictOf (es274 P) 6),
  (275, (.mk (kr 122) (some 274) .plain (List.toArray (α := Option Value) []))),
  (277, dictOf (es277 P) 6),
  (278, (.mk (kr 269) (some 277) .plain (List.toArray (α := Option Value) []))),
  (280, dictOf (es280 P) 6),
  (281, (.mk (kr 122) (some 280) .plain (List.toArray (α := Option Value) []))),
  (283, dictOf (es283 P) 6),
  (284, (.mk (kr 269) (some 283) .plain (List.toArray (α := Option Value) []))),
  (286, dictOf (es286 P) 6),
  (287, (.mk (kr 122) (some 286) .plain (List.toArray (α := Option Value) []))),
  (289, dictOf (es289 P) 6),
  (290, (.mk (kr 269) (some 289) .plain (List.toArray (α := Option Value) []))),
  (297, kc [(kt "_law_kinds" 746), (kt "_law_kinds" 747), (kt "/claim/cut.py" 748), (ki 144 0), (ki 0 0), (ki 0 0), (ki 0 0), (ki 3 0), (kr 292), (.bool true), (ki 181 0), (kr 293), .none, (kr 294), (kr 295), (kr 296), (ki 749 0), (ki 144 0), (kt "/claim/cut.py" 750)]),
  (298, fobj fd298),
  (304, kc [(kt "_law_names" 752), (kt "_law_names" 753), (kt "/claim/cut.py" 754), (ki 146 0), (ki 0 0), (ki 0 0), (ki 0 0), (ki 3 0), (kr 299), (.bool true), (ki 181 0), (kr 300), .none, (kr 301), (kr 302), (kr 303), (ki 755 0), (ki 146 0), (kt "/claim/cut.py" 756)]),
  (305, fobj fd305),
  (311, kc [(kt "_law_small" 758), (kt "_law_small" 759), (kt "/claim/cut.py" 760), (ki 148 0), (ki 1 0), (ki 0 0), (ki 0 0), (ki 3 0), (kr 306), (.bool true), (ki 181 0), (kr 307), .none, (kr 308), (kr 309), (kr 310), (ki 762 0), (ki 148 0), (kt "/claim/cut.py" 763)]),
  (312, fobj fd312),
  (316, kc [(kt "_law_row" 765), (kt "_law_row" 766), (kt "/claim/cut.py" 767), (ki 150 0), (ki 1 0), (ki 0 0), (ki 0 0), (ki 3 0), (kr 313), (.bool true), (ki 181 0), (kr 314), .none, .none, .none, (kr 315), (ki 768 0), (ki 150 0), (kt "/claim/cut.py" 769)]),
  (317, fobj fd317),
  (323, kc [(kt "_law_number" 771), (kt "_law_number" 772), (kt "/claim/cut.py" 773), (ki 152 0), (ki 1 0), (ki 0 0), (ki 0 0), (ki 3 0), (kr 318), (.bool true), (ki 181 0), (kr 319), .none, (kr 320), (kr 321), (kr 322), (ki 777 0), (ki 152 0), (kt "/claim/cut.py" 778)]),
  (324, fobj fd324),
  (330, kc [(kt "_law_grown" 780), (kt "_law_grown" 781), (kt "/claim/cut.py" 782), (ki 157 0), (ki 3 0), (ki 0 0), (ki 0 0), (ki 3 0), (kr 325), (.bool true), (ki 181 0), (kr 326), .none, (kr 327), (kr 328), (kr 329), (ki 786 0), (ki 157 0), (kt "/claim/cut.py" 787)]),
  (331, fobj fd331),
  (337, kc [(kt "_law_clamped" 789), (kt "_law_clamped" 790), (kt "/claim/cut.py" 791), (ki 159 0), (ki 3 0), (ki 0 0), (ki 0 0), (ki 3 0), (kr 332), (.bool true), (ki 181 0), (kr 333), .none, (kr 334), (kr 335), (kr 336), (ki 795 0), (ki 159 0), (kt "/claim/cut.py" 796)]),
  (338, fobj fd338),
  (344, kc [(kt "_law_sum" 798), (kt "_law_sum" 799), (kt "/claim/cut.py" 800), (ki 165 0), (ki 3 0), (ki 0 0), (ki 0 0), (ki 3 0), (kr 339), (.bool true), (ki 181 0), (kr 340), .none, (kr 341), (kr 342), (kr 343), (ki 806 0), (ki 165 0), (kt "/claim/cut.py" 807)]),
  (345, fobj fd345),
  (349, kc [(kt "_law_minus" 809), (kt "_law_minus" 810), (kt "/claim/cut.py" 811), (ki 172 0), (ki 1 0), (ki 0 0), (ki 0 0), (ki 3 0), (kr 346), (.bool true), (ki 181 0), (kr 347), .none, .none, .none, (kr 348), (ki 812 0), (ki 172 0), (kt "/claim/cut.py" 813)]),
  (350, fobj fd350),
  (354, kc [(kt "_law_product" 815), (kt "_law_product" 816), (kt "/claim/cut.py" 817), (ki 174 0), (ki 3 0), (ki 0 0), (ki 0 0), (ki 3 0), (kr 351), (.bool true), (ki 181 0), (kr 352), .none, .none, .none, (kr 353), (ki 818 0), (ki 174 0), (kt "/claim/cut.py" 819)]),
  (355, fobj fd355),
  (361, kc [(kt "_law_divided" 821), (kt "_law_divided" 822), (kt "/claim/cut.py" 823), (ki 182 0), (ki 3 0), (ki 0 0), (ki 0 0), (ki 3 0), (kr 356), (.bool true), (ki 181 0), (kr 357), .none, (kr 358), (kr 359), (kr 360), (ki 831 0), (ki 182 0), (kt "/claim/cut.py" 832)]),
  (362, fobj fd362),
  (366, kc [(kt "_law_packed" 834), (kt "_law_packed" 835), (kt "/claim/cut.py" 836), (ki 191 0), (ki 2 0), (ki 0 0), (ki 0 0), (ki 3 0), (kr 363), (.bool true), (ki 181 0), (kr 364), .none, .none, .none, (kr 365), (ki 837 0), (ki 191 0), (kt "/claim/cut.py" 838)]),
  (367, fobj fd367),
  (373, kc [(kt "_law_quotient" 840), (kt "_law_quotient" 841), (kt "/claim/cut.py" 842), (ki 193 0), (ki 5 0), (ki 0 0), (ki 0 0), (ki 3 0), (kr 368), (.bool true), (ki 181 0), (kr 369), .none, (kr 370), (kr 371), (kr 372), (ki 850 0), (ki 193 0), (kt "/claim/cut.py" 851)]),
  (374, fobj fd374),
  (378, kc [(kt "_law_due" 853), (kt "_law_due" 854), (kt "/claim/cut.py" 855), (ki 202 0), (ki 5 0), (ki 0 0), (ki 0 0), (ki 3 0), (kr 375), (.bool true), (ki 181 0), (kr 376), .none, .none, .none, (kr 377), (ki 856 0), (ki 202 0), (kt "/claim/cut.py" 857)]),
  (379, fobj fd379),
  (385, kc [(kt "_law_told" 859), (kt "_law_told" 860), (kt "/claim/cut.py" 861), (ki 232 0), (ki 4 0), (ki 0 0), (ki 0 0), (ki 3 0), (kr 380), (.bool true), (ki 181 0), (kr 381), .none, (kr 382), (kr 383), (kr 384), (ki 866 0), (ki 232 0), (kt "/claim/cut.py" 867)]),
  (386, fobj fd386),
  (392, kc [(kt "_law_refused" 869), (kt "_law_refused" 870), (kt "/claim/cut.py" 871), (ki 267 0), (ki 1 0), (ki 0 0), (ki 0 0), (ki 3 0), (kr 387), (.bool true), (ki 181 0), (kr 388), .none, (kr 389), (kr 390), (kr 391), (ki 878 0), (ki 267 0), (kt "/claim/cut.py" 879)]),
  (393, fobj fd393),
  (399, kc [(kt "law" 881), (kt "law" 882), (kt "/claim/cut.py" 883), (ki 276 0), (ki 1 0), (ki 0 0), (ki 0 0), (ki 3 0), (kr 394), (.bool true), (ki 181 0), (kr 395), .none, (kr 396), (kr 397), (kr 398), (ki 903 0), (ki 276 0), (kt "/claim/cut.py" 904)]),
  (400, fobj fd400)]
noncomputable def A0 : List Nat := [2, 3, 27, 28, 34, 35, 41, 42, 48, 49, 55, 56, 62, 63, 69, 70, 76, 77, 83, 84, 90, 91, 97, 98, 104, 105, 111, 112, 118, 119, 121, 122, 139, 140, 146, 147, 153, 154, 160, 161, 167, 168, 174, 175, 181, 182, 188, 189, 195, 196, 202, 203, 209, 210, 216, 217, 223, 224, 230, 231, 237, 238, 244, 245, 251, 252, 258, 259, 265, 266, 268, 269, 274, 275, 277, 278, 280, 281, 283, 284, 286, 287, 289, 290, 297, 298, 304, 305, 311, 312, 316, 317, 323, 324, 330, 331, 337, 338, 344, 345, 349, 350, 354, 355, 361, 362, 366, 367, 373, 374, 378, 379, 385, 386, 392, 393, 399, 400]
theorem a0_eq : ∀ P, A0 = (K0 P).map (·.1) := fun P => rfl
theorem fl28 (P : Params) : (K0 P).lookup 28 = some (fobj fd28) := rfl
theorem fl35 (P : Params) : (K0 P).lookup 35 = some (fobj fd35) := rfl
theorem fl42 (P : Params) : (K0 P).lookup 42 = some (fobj fd42) := rfl
theorem fl49 (P : Params) : (K0 P).lookup 49 = some (fobj fd49) := rfl
theorem fl56 (P : Params) : (K0 P).lookup 56 = some (fobj fd56) := rfl
theorem fl63 (P : Params) : (K0 P).lookup 63 = some (fobj fd63) := rfl
theorem fl70 (P : Params) : (K0 P).lookup 70 = some (fobj fd70) := rfl
theorem fl77 (P : Params) : (K0 P).lookup 77 = some (fobj fd77) := rfl
theorem fl84 (P : Params) : (K0 P).lookup 84 = some (fobj fd84) := rfl
theorem fl91 (P : Params) : (K0 P).lookup 91 = some (fobj fd91) := rfl
theorem fl98 (P : Params) : (K0 P).lookup 98 = some (fobj fd98) := rfl
theorem fl105 (P : Params) : (K0 P).lookup 105 = some (fobj fd105) := rfl
theorem fl112 (P : Params) : (K0 P).lookup 112 = some (fobj fd112) := rfl
theorem fl119 (P : Params) : (K0 P).lookup 119 = some (fobj fd119) := rfl
theorem fl140 (P : Params) : (K0 P).lookup 140 = some (fobj fd140) := rfl
theorem fl147 (P : Params) : (K0 P).lookup 147 = some (fobj fd147) := rfl
theorem fl154 (P : Params) : (K0 P).lookup 154 = some (fobj fd154) := rfl
theorem fl161 (P : Params) : (K0 P).lookup 161 = some (fobj fd161) := rfl
theorem fl168 (P : Params) : (K0 P).lookup 168 = some (fobj fd168) := rfl
theorem fl175 (P : Params) : (K0 P).lookup 175 = some (fobj fd175) := rfl
theorem fl182 (P : Params) : (K0 P).lookup 182 = some (fobj fd182) := rfl
theorem fl189 (P : Params) : (K0 P).lookup 189 = some (fobj fd189) := rfl
theorem fl196 (P : Params) : (K0 P).lookup 196 = some (fobj fd196) := rfl
theorem fl203 (P : Params) : (K0 P).lookup 203 = some (fobj fd203) := rfl
theorem fl210 (P : Params) : (K0 P).lookup 210 = some (fobj fd210) := rfl
theorem fl217 (P : Params) : (K0 P).lookup 217 = some (fobj fd217) := rfl
theorem fl224 (P : Params) : (K0 P).lookup 224 = some (fobj fd224) := rfl
theorem fl231 (P : Params) : (K0 P).lookup 231 = some (fobj fd231) := rfl
theorem fl238 (P : Params) : (K0 P).lookup 238 = some (fobj fd238) := rfl
theorem fl245 (P : Params) : (K0 P).lookup 245 = some (fobj fd245) := rfl
theorem fl252 (P : Params) : (K0 P).lookup 252 = some (fobj fd252) := rfl
theorem fl259 (P : Params) : (K0 P).lookup 259 = some (fobj fd259) := rfl
theorem fl266 (P : Params) : (K0 P).lookup 266 = some (fobj fd266) := rfl
theorem fl298 (P : Params) : (K0 P).lookup 298 = some (fobj fd298) := rfl
theorem fl305 (P : Params) : (K0 P).lookup 305 = some (fobj fd305) := rfl
theorem fl312 (P : Params) : (K0 P).lookup 312 = some (fobj fd312) := rfl
theorem fl317 (P : Params) : (K0 P).lookup 317 = some (fobj fd317) := rfl
theorem fl324 (P : Params) : (K0 P).lookup 324 = some (fobj fd324) := rfl
theorem fl331 (P : Params) : (K0 P).lookup 331 = some (fobj fd331) := rfl
theorem fl338 (P : Params) : (K0 P).lookup 338 = some (fobj fd338) := rfl
theorem fl345 (P : Params) : (K0 P).lookup 345 = some (fobj fd345) := rfl
theorem fl350 (P : Params) : (K0 P).lookup 350 = some (fobj fd350) := rfl
theorem fl355 (P : Params) : (K0 P).lookup 355 = some (fobj fd355) := rfl
theorem fl362 (P : Params) : (K0 P).lookup 362 = some (fobj fd362) := rfl
theorem fl367 (P : Params) : (K0 P).lookup 367 = some (fobj fd367) := rfl
theorem fl374 (P : Params) : (K0 P).lookup 374 = some (fobj fd374) := rfl
theorem fl379 (P : Params) : (K0 P).lookup 379 = some (fobj fd379) := rfl
theorem fl386 (P : Params) : (K0 P).lookup 386 = some (fobj fd386) := rfl
theorem fl393 (P : Params) : (K0 P).lookup 393 = some (fobj fd393) := rfl
theorem fl400 (P : Params) : (K0 P).lookup 400 = some (fobj fd400) := rfl
end
end Mine
end
section
open PySem PySem.W PyProof.Rows PySem.Calls
set_option Elab.async false
set_option linter.all false
set_option autoImplicit false
set_option maxRecDepth 100000
namespace Mine
theorem vs_len0 {α : Type} {vs : List α} (h : vs.length = 0) : vs = [] := List.length_eq_zero_iff.mp h
theorem vs_len1 {α : Type} {vs : List α} (h : vs.length = 1) : ∃ a, vs = [a] := List.length_eq_one_iff.mp h
theorem vs_len2 {α : Type} {vs : List α} (h : vs.length = 2) : ∃ a b, vs = [a, b] := by
  match vs, h with
  | a :: r, h => obtain ⟨b, rfl⟩ := vs_len1 (vs := r) (Nat.succ.inj h); exact ⟨a, b, rfl⟩
theorem vs_len3 {α : Type} {vs : List α} (h : vs.length = 3) : ∃ a b c, vs = [a, b, c] := by
  match vs, h with
  | a :: r, h => obtain ⟨b, c, rfl⟩ := vs_len2 (vs := r) (Nat.succ.inj h); exact ⟨a, b, c, rfl⟩
theorem vs_len4 {α : Type} {vs : List α} (h : vs.length = 4) : ∃ a b c d, vs = [a, b, c, d] := by
  match vs, h with
  | a :: r, h => obtain ⟨b, c, d, rfl⟩ := vs_len3 (vs := r) (Nat.succ.inj h); exact ⟨a, b, c, d, rfl⟩
theorem vs_len5 {α : Type} {vs : List α} (h : vs.length = 5) : ∃ a b c d e, vs = [a, b, c, d, e] := by
  match vs, h with
  | a :: r, h => obtain ⟨b, c, d, e, rfl⟩ := vs_len4 (vs := r) (Nat.succ.inj h); exact ⟨a, b, c, d, e, rfl⟩
section
variable {Ω : Wd} (hΩ : Ω.K = K0 Ω.w.params)
include hΩ
theorem fk35 : FnK Ω 35 fd35 [0, 2] (bodyOf fd35) := by
  refine ⟨by rw [hΩ]; exact fl35 _, ?_, by rw [hΩ]; rfl, fun vs h => ?_, ?_, ?_, ?_, ?_, ?_, ?_, ?_, by decide, by decide, ?_⟩
  · with_unfolding_all rfl
  · obtain ⟨v0, v1, rfl⟩ := vs_len2 h
    with_unfolding_all rfl
  · with_unfolding_all rfl
  · with_unfolding_all rfl
  · with_unfolding_all rfl
  · with_unfolding_all rfl
  · with_unfolding_all rfl
  · with_unfolding_all rfl
  · decide +kernel
  · decide +kernel
theorem fk42 : FnK Ω 42 fd42 [0, 3] (bodyOf fd42) := by
  refine ⟨by rw [hΩ]; exact fl42 _, ?_, by rw [hΩ]; rfl, fun vs h => ?_, ?_, ?_, ?_, ?_, ?_, ?_, ?_, by decide, by decide, ?_⟩
  · with_unfolding_all rfl
  · obtain ⟨v0, v1, rfl⟩ := vs_len2 h
    with_unfolding_all rfl
  · with_unfolding_all rfl
  · with_unfolding_all rfl
  · with_unfolding_all rfl
  · with_unfolding_all rfl
  · with_unfolding_all rfl
  · with_unfolding_all rfl
  · decide +kernel
  · decide +kernel
theorem fk49 : FnK Ω 49 fd49 [0, 3] (bodyOf fd49) := by
  refine ⟨by rw [hΩ]; exact fl49 _, ?_, by rw [hΩ]; rfl, fun vs h => ?_, ?_, ?_, ?_, ?_, ?_, ?_, ?_, by decide, by decide, ?_⟩
  · with_unfolding_all rfl
  · obtain ⟨v0, v1, rfl⟩ := vs_len2 h
    with_unfolding_all rfl
  · with_unfolding_all rfl
  · with_unfolding_all rfl
  · with_unfolding_all rfl
  · with_unfolding_all rfl
  · with_unfolding_all rfl
  · with_unfolding_all rfl
  · decide +kernel
  · decide +kernel
theorem fk56 : FnK Ω 56 fd56 [0, 3] (bodyOf fd56) := by
  refine ⟨by rw [hΩ]; exact fl56 _, ?_, by rw [hΩ]; rfl, fun vs h => ?_, ?_, ?_, ?_, ?_, ?_, ?_, ?_, by decide, by decide, ?_⟩
  · with_unfolding_all rfl
  · obtain ⟨v0, v1, rfl⟩ := vs_len2 h
    with_unfolding_all rfl
  · with_unfolding_all rfl
  · with_unfolding_all rfl
  · with_unfolding_all rfl
  · with_unfolding_all rfl
  · with_unfolding_all rfl
  · with_unfolding_all rfl
  · decide +kernel
  · decide +kernel
theorem fk63 : FnK Ω 63 fd63 [0, 4, 5] (bodyOf fd63) := by
  refine ⟨by rw [hΩ]; exact fl63 _, ?_, by rw [hΩ]; rfl, fun vs h => ?_, ?_, ?_, ?_, ?_, ?_, ?_, ?_, by decide, by decide, ?_⟩
  · with_unfolding_all rfl
  · obtain ⟨v0, v1, v2, rfl⟩ := vs_len3 h
    with_unfolding_all rfl
  · with_unfolding_all rfl
  · with_unfolding_all rfl
  · with_unfolding_all rfl
  · with_unfolding_all rfl
  · with_unfolding_all rfl
  · with_unfolding_all rfl
  · decide +kernel
  · decide +kernel
theorem fk70 : FnK Ω 70 fd70 [0, 4, 5] (bodyOf fd70) := by
  refine ⟨by rw [hΩ]; exact fl70 _, ?_, by rw [hΩ]; rfl, fun vs h => ?_, ?_, ?_, ?_, ?_, ?_, ?_, ?_, by decide, by decide, ?_⟩
  · with_unfolding_all rfl
  · obtain ⟨v0, v1, v2, rfl⟩ := vs_len3 h
    with_unfolding_all rfl
  · with_unfolding_all rfl
  · with_unfolding_all rfl
  · with_unfolding_all rfl
  · with_unfolding_all rfl
  · with_unfolding_all rfl
  · with_unfolding_all rfl
  · decide +kernel
  · decide +kernel
theorem fk77 : FnK Ω 77 fd77 [0, 4, 5] (bodyOf fd77) := by
  refine ⟨by rw [hΩ]; exact fl77 _, ?_, by rw [hΩ]; rfl, fun vs h => ?_, ?_, ?_, ?_, ?_, ?_, ?_, ?_, by decide, by decide, ?_⟩
  · with_unfolding_all rfl
  · obtain ⟨v0, v1, v2, rfl⟩ := vs_len3 h
    with_unfolding_all rfl
  · with_unfolding_all rfl
  · with_unfolding_all rfl
  · with_unfolding_all rfl
  · with_unfolding_all rfl
  · with_unfolding_all rfl
  · with_unfolding_all rfl
  · decide +kernel
  · decide +kernel
theorem fk84 : FnK Ω 84 fd84 [0, 4, 5] (bodyOf fd84) := by
  refine ⟨by rw [hΩ]; exact fl84 _, ?_, by rw [hΩ]; rfl, fun vs h => ?_, ?_, ?_, ?_, ?_, ?_, ?_, ?_, by decide, by decide, ?_⟩
  · with_unfolding_all rfl
  · obtain ⟨v0, v1, v2, rfl⟩ := vs_len3 h
    with_unfolding_all rfl
  · with_unfolding_all rfl
  · with_unfolding_all rfl
  · with_unfolding_all rfl
  · with_unfolding_all rfl
  · with_unfolding_all rfl
  · with_unfolding_all rfl
  · decide +kernel
  · decide +kernel
theorem fk91 : FnK Ω 91 fd91 [0, 4, 5] (bodyOf fd91) := by
  refine ⟨by rw [hΩ]; exact fl91 _, ?_, by rw [hΩ]; rfl, fun vs h => ?_, ?_, ?_, ?_, ?_, ?_, ?_, ?_, by decide, by decide, ?_⟩
  · with_unfolding_all rfl
  · obtain ⟨v0, v1, v2, rfl⟩ := vs_len3 h
    with_unfolding_all rfl
  · with_unfolding_all rfl
  · with_unfolding_all rfl
  · with_unfolding_all rfl
  · with_unfolding_all rfl
  · with_unfolding_all rfl
  · with_unfolding_all rfl
  · decide +kernel
  · decide +kernel
theorem fk98 : FnK Ω 98 fd98 [0, 4, 5] (bodyOf fd98) := by
  refine ⟨by rw [hΩ]; exact fl98 _, ?_, by rw [hΩ]; rfl, fun vs h => ?_, ?_, ?_, ?_, ?_, ?_, ?_, ?_, by decide, by decide, ?_⟩
  · with_unfolding_all rfl
  · obtain ⟨v0, v1, v2, rfl⟩ := vs_len3 h
    with_unfolding_all rfl
  · with_unfolding_all rfl
  · with_unfolding_all rfl
  · with_unfolding_all rfl
  · with_unfolding_all rfl
  · with_unfolding_all rfl
  · with_unfolding_all rfl
  · decide +kernel
  · decide +kernel
theorem fk105 : FnK Ω 105 fd105 [0, 4, 5] (bodyOf fd105) := by
  refine ⟨by rw [hΩ]; exact fl105 _, ?_, by rw [hΩ]; rfl, fun vs h => ?_, ?_, ?_, ?_, ?_, ?_, ?_, ?_, by decide, by decide, ?_⟩
  · with_unfolding_all rfl
  · obtain ⟨v0, v1, v2, rfl⟩ := vs_len3 h
    with_unfolding_all rfl
  · with_unfolding_all rfl
  · with_unfolding_all rfl
  · with_unfolding_all rfl
  · with_unfolding_all rfl
  · with_unfolding_all rfl
  · with_unfolding_all rfl
  · decide +kernel
  · decide +kernel
theorem fk112 : FnK Ω 112 fd112 [0, 4, 5] (bodyOf fd112) := by
  refine ⟨by rw [hΩ]; exact fl112 _, ?_, by rw [hΩ]; rfl, fun vs h => ?_, ?_, ?_, ?_, ?_, ?_, ?_, ?_, by decide, by decide, ?_⟩
  · with_unfolding_all rfl
  · obtain ⟨v0, v1, v2, rfl⟩ := vs_len3 h
    with_unfolding_all rfl
  · with_unfolding_all rfl
  · with_unfolding_all rfl
  · with_unfolding_all rfl
  · with_unfolding_all rfl
  · with_unfolding_all rfl
  · with_unfolding_all rfl
  · decide +kernel
  · decide +kernel
theorem fk119 : FnK Ω 119 fd119 [0, 4, 5] (bodyOf fd119) := by
  refine ⟨by rw [hΩ]; exact fl119 _, ?_, by rw [hΩ]; rfl, fun vs h => ?_, ?_, ?_, ?_, ?_, ?_, ?_, ?_, by decide, by decide, ?_⟩
  · with_unfolding_all rfl
  · obtain ⟨v0, v1, v2, rfl⟩ := vs_len3 h
    with_unfolding_all rfl
  · with_unfolding_all rfl
  · with_unfolding_all rfl
  · with_unfolding_all rfl
  · with_unfolding_all rfl
  · with_unfolding_all rfl
  · with_unfolding_all rfl
  · decide +kernel
  · decide +kernel
theorem fk147 : FnK Ω 147 fd147 [0, 2] (bodyOf fd147) := by
  refine ⟨by rw [hΩ]; exact fl147 _, ?_, by rw [hΩ]; rfl, fun vs h => ?_, ?_, ?_, ?_, ?_, ?_, ?_, ?_, by decide, by decide, ?_⟩
  · with_unfolding_all rfl
  · obtain ⟨v0, v1, rfl⟩ := vs_len2 h
    with_unfolding_all rfl
  · with_unfolding_all rfl
  · with_unfolding_all rfl
  · with_unfolding_all rfl
  · with_unfolding_all rfl
  · with_unfolding_all rfl
  · with_unfolding_all rfl
  · decide +kernel
  · decide +kernel
theorem fk154 : FnK Ω 154 fd154 [0, 3] (bodyOf fd154) := by
  refine ⟨by rw [hΩ]; exact fl154 _, ?_, by rw [hΩ]; rfl, fun vs h => ?_, ?_, ?_, ?_, ?_, ?_, ?_, ?_, by decide, by decide, ?_⟩
  · with_unfolding_all rfl
  · obtain ⟨v0, v1, rfl⟩ := vs_len2 h
    with_unfolding_all rfl
  · with_unfolding_all rfl
  · with_unfolding_all rfl
  · with_unfolding_all rfl
  · with_unfolding_all rfl
  · with_unfolding_all rfl
  · with_unfolding_all rfl
  · decide +kernel
  · decide +kernel
theorem fk161 : FnK Ω 161 fd161 [0, 3] (bodyOf fd161) := by
  refine ⟨by rw [hΩ]; exact fl161 _, ?_, by rw [hΩ]; rfl, fun vs h => ?_, ?_, ?_, ?_, ?_, ?_, ?_, ?_, by decide, by decide, ?_⟩
  · with_unfolding_all rfl
  · obtain ⟨v0, v1, rfl⟩ := vs_len2 h
    with_unfolding_all rfl
  · with_unfolding_all rfl
  · with_unfolding_all rfl
  · with_unfolding_all rfl
  · with_unfolding_all rfl
  · with_unfolding_all rfl
  · with_unfolding_all rfl
  · decide +kernel
  · decide +kernel
theorem fk168 : FnK Ω 168 fd168 [0, 3] (bodyOf fd168) := by
  refine ⟨by rw [hΩ]; exact fl168 _, ?_, by rw [hΩ]; rfl, fun vs h => ?_, ?_, ?_, ?_, ?_, ?_, ?_, ?_, by decide, by decide, ?_⟩
  · with_unfolding_all rfl
  · obtain ⟨v0, v1, rfl⟩ := vs_len2 h
    with_unfolding_all rfl
  · with_unfolding_all rfl
  · with_unfolding_all rfl
  · with_unfolding_all rfl
  · with_unfolding_all rfl
  · with_unfolding_all rfl
  · with_unfolding_all rfl
  · decide +kernel
  · decide +kernel
theorem fk175 : FnK Ω 175 fd175 [0, 4, 5] (bodyOf fd175) := by
  refine ⟨by rw [hΩ]; exact fl175 _, ?_, by rw [hΩ]; rfl, fun vs h => ?_, ?_, ?_, ?_, ?_, ?_, ?_, ?_, by decide, by decide, ?_⟩
  · with_unfolding_all rfl
  · obtain ⟨v0, v1, v2, rfl⟩ := vs_len3 h
    with_unfolding_all rfl
  · with_unfolding_all rfl
  · with_unfolding_all rfl
  · with_unfolding_all rfl
  · with_unfolding_all rfl
  · with_unfolding_all rfl
  · with_unfolding_all rfl
  · decide +kernel
  · decide +kernel
theorem fk182 : FnK Ω 182 fd182 [0, 4, 5] (bodyOf fd182) := by
  refine ⟨by rw [hΩ]; exact fl182 _, ?_, by rw [hΩ]; rfl, fun vs h => ?_, ?_, ?_, ?_, ?_, ?_, ?_, ?_, by decide, by decide, ?_⟩
  · with_unfolding_all rfl
  · obtain ⟨v0, v1, v2, rfl⟩ := vs_len3 h
    with_unfolding_all rfl
  · with_unfolding_all rfl
  · with_unfolding_all rfl
  · with_unfolding_all rfl
  · with_unfolding_all rfl
  · with_unfolding_all rfl
  · with_unfolding_all rfl
  · decide +kernel
  · decide +kernel
theorem fk189 : FnK Ω 189 fd189 [0, 4, 5] (bodyOf fd189) := by
  refine ⟨by rw [hΩ]; exact fl189 _, ?_, by rw [hΩ]; rfl, fun vs h => ?_, ?_, ?_, ?_, ?_, ?_, ?_, ?_, by decide, by decide, ?_⟩
  · with_unfolding_all rfl
  · obtain ⟨v0, v1, v2, rfl⟩ := vs_len3 h
    with_unfolding_all rfl
  · with_unfolding_all rfl
  · with_unfolding_all rfl
  · with_unfolding_all rfl
  · with_unfolding_all rfl
  · with_unfolding_all rfl
  · with_unfolding_all rfl
  · decide +kernel
  · decide +kernel
theorem fk196 : FnK Ω 196 fd196 [0, 4, 5] (bodyOf fd196) := by
  refine ⟨by rw [hΩ]; exact fl196 _, ?_, by rw [hΩ]; rfl, fun vs h => ?_, ?_, ?_, ?_, ?_, ?_, ?_, ?_, by decide, by decide, ?_⟩
  · with_unfolding_all rfl
  · obtain ⟨v0, v1, v2, rfl⟩ := vs_len3 h
    with_unfolding_all rfl
  · with_unfolding_all rfl
  · with_unfolding_all rfl
  · with_unfolding_all rfl
  · with_unfolding_all rfl
  · with_unfolding_all rfl
  · with_unfolding_all rfl
  · decide +kernel
  · decide +kernel
theorem fk203 : FnK Ω 203 fd203 [0, 4, 5] (bodyOf fd203) := by
  refine ⟨by rw [hΩ]; exact fl203 _, ?_, by rw [hΩ]; rfl, fun vs h => ?_, ?_, ?_, ?_, ?_, ?_, ?_, ?_, by decide, by decide, ?_⟩
  · with_unfolding_all rfl
  · obtain ⟨v0, v1, v2, rfl⟩ := vs_len3 h
    with_unfolding_all rfl
  · with_unfolding_all rfl
  · with_unfolding_all rfl
  · with_unfolding_all rfl
  · with_unfolding_all rfl
  · with_unfolding_all rfl
  · with_unfolding_all rfl
  · decide +kernel
  · decide +kernel
theorem fk210 : FnK Ω 210 fd210 [0, 4, 5] (bodyOf fd210) := by
  refine ⟨by rw [hΩ]; exact fl210 _, ?_, by rw [hΩ]; rfl, fun vs h => ?_, ?_, ?_, ?_, ?_, ?_, ?_, ?_, by decide, by decide, ?_⟩
  · with_unfolding_all rfl
  · obtain ⟨v0, v1, v2, rfl⟩ := vs_len3 h
    with_unfolding_all rfl
  · with_unfolding_all rfl
  · with_unfolding_all rfl
  · with_unfolding_all rfl
  · with_unfolding_all rfl
  · with_unfolding_all rfl
  · with_unfolding_all rfl
  · decide +kernel
  · decide +kernel
theorem fk217 : FnK Ω 217 fd217 [0, 4, 5] (bodyOf fd217) := by
  refine ⟨by rw [hΩ]; exact fl217 _, ?_, by rw [hΩ]; rfl, fun vs h => ?_, ?_, ?_, ?_, ?_, ?_, ?_, ?_, by decide, by decide, ?_⟩
  · with_unfolding_all rfl
  · obtain ⟨v0, v1, v2, rfl⟩ := vs_len3 h
    with_unfolding_all rfl
  · with_unfolding_all rfl
  · with_unfolding_all rfl
  · with_unfolding_all rfl
  · with_unfolding_all rfl
  · with_unfolding_all rfl
  · with_unfolding_all rfl
  · decide +kernel
  · decide +kernel
theorem fk224 : FnK Ω 224 fd224 [0, 4, 5] (bodyOf fd224) := by
  refine ⟨by rw [hΩ]; exact fl224 _, ?_, by rw [hΩ]; rfl, fun vs h => ?_, ?_, ?_, ?_, ?_, ?_, ?_, ?_, by decide, by decide, ?_⟩
  · with_unfolding_all rfl
  · obtain ⟨v0, v1, v2, rfl⟩ := vs_len3 h
    with_unfolding_all rfl
  · with_unfolding_all rfl
  · with_unfolding_all rfl
  · with_unfolding_all rfl
  · with_unfolding_all rfl
  · with_unfolding_all rfl
  · with_unfolding_all rfl
  · decide +kernel
  · decide +kernel
theorem fk231 : FnK Ω 231 fd231 [0, 4, 5] (bodyOf fd231) := by
  refine ⟨by rw [hΩ]; exact fl231 _, ?_, by rw [hΩ]; rfl, fun vs h => ?_, ?_, ?_, ?_, ?_, ?_, ?_, ?_, by decide, by decide, ?_⟩
  · with_unfolding_all rfl
  · obtain ⟨v0, v1, v2, rfl⟩ := vs_len3 h
    with_unfolding_all rfl
  · with_unfolding_all rfl
  · with_unfolding_all rfl
  · with_unfolding_all rfl
  · with_unfolding_all rfl
  · with_unfolding_all rfl
  · with_unfolding_all rfl
  · decide +kernel
  · decide +kernel
theorem fk238 : FnK Ω 238 fd238 [0, 4, 5] (bodyOf fd238) := by
  refine ⟨by rw [hΩ]; exact fl238 _, ?_, by rw [hΩ]; rfl, fun vs h => ?_, ?_, ?_, ?_, ?_, ?_, ?_, ?_, by decide, by decide, ?_⟩
  · with_unfolding_all rfl
  · obtain ⟨v0, v1, v2, rfl⟩ := vs_len3 h
    with_unfolding_all rfl
  · with_unfolding_all rfl
  · with_unfolding_all rfl
  · with_unfolding_all rfl
  · with_unfolding_all rfl
  · with_unfolding_all rfl
  · with_unfolding_all rfl
  · decide +kernel
  · decide +kernel
theorem fk245 : FnK Ω 245 fd245 [0, 4, 5] (bodyOf fd245) := by
  refine ⟨by rw [hΩ]; exact fl245 _, ?_, by rw [hΩ]; rfl, fun vs h => ?_, ?_, ?_, ?_, ?_, ?_, ?_, ?_, by decide, by decide, ?_⟩
  · with_unfolding_all rfl
  · obtain ⟨v0, v1, v2, rfl⟩ := vs_len3 h
    with_unfolding_all rfl
  · with_unfolding_all rfl
  · with_unfolding_all rfl
  · with_unfolding_all rfl
  · with_unfolding_all rfl
  · with_unfolding_all rfl
  · with_unfolding_all rfl
  · decide +kernel
  · decide +kernel
theorem fk252 : FnK Ω 252 fd252 [0, 4] (bodyOf fd252) := by
  refine ⟨by rw [hΩ]; exact fl252 _, ?_, by rw [hΩ]; rfl, fun vs h => ?_, ?_, ?_, ?_, ?_, ?_, ?_, ?_, by decide, by decide, ?_⟩
  · with_unfolding_all rfl
  · obtain ⟨v0, v1, rfl⟩ := vs_len2 h
    with_unfolding_all rfl
  · with_unfolding_all rfl
  · with_unfolding_all rfl
  · with_unfolding_all rfl
  · with_unfolding_all rfl
  · with_unfolding_all rfl
  · with_unfolding_all rfl
  · decide +kernel
  · decide +kernel
theorem fk259 : FnK Ω 259 fd259 [0, 4] (bodyOf fd259) := by
  refine ⟨by rw [hΩ]; exact fl259 _, ?_, by rw [hΩ]; rfl, fun vs h => ?_, ?_, ?_, ?_, ?_, ?_, ?_, ?_, by decide, by decide, ?_⟩
  · with_unfolding_all rfl
  · obtain ⟨v0, v1, rfl⟩ := vs_len2 h
    with_unfolding_all rfl
  · with_unfolding_all rfl
  · with_unfolding_all rfl
  · with_unfolding_all rfl
  · with_unfolding_all rfl
  · with_unfolding_all rfl
  · with_unfolding_all rfl
  · decide +kernel
  · decide +kernel
theorem fk266 : FnK Ω 266 fd266 [0, 4] (bodyOf fd266) := by
  refine ⟨by rw [hΩ]; exact fl266 _, ?_, by rw [hΩ]; rfl, fun vs h => ?_, ?_, ?_, ?_, ?_, ?_, ?_, ?_, by decide, by decide, ?_⟩
  · with_unfolding_all rfl
  · obtain ⟨v0, v1, rfl⟩ := vs_len2 h
    with_unfolding_all rfl
  · with_unfolding_all rfl
  · with_unfolding_all rfl
  · with_unfolding_all rfl
  · with_unfolding_all rfl
  · with_unfolding_all rfl
  · with_unfolding_all rfl
  · decide +kernel
  · decide +kernel
theorem fk298 : FnK Ω 298 fd298 [] (bodyOf fd298) := by
  refine ⟨by rw [hΩ]; exact fl298 _, ?_, by rw [hΩ]; rfl, fun vs h => ?_, ?_, ?_, ?_, ?_, ?_, ?_, ?_, by decide, by decide, ?_⟩
  · with_unfolding_all rfl
  · obtain rfl := vs_len0 h
    with_unfolding_all rfl
  · with_unfolding_all rfl
  · with_unfolding_all rfl
  · with_unfolding_all rfl
  · with_unfolding_all rfl
  · with_unfolding_all rfl
  · with_unfolding_all rfl
  · decide +kernel
  · decide +kernel
theorem fk305 : FnK Ω 305 fd305 [] (bodyOf fd305) := by
  refine ⟨by rw [hΩ]; exact fl305 _, ?_, by rw [hΩ]; rfl, fun vs h => ?_, ?_, ?_, ?_, ?_, ?_, ?_, ?_, by decide, by decide, ?_⟩
  · with_unfolding_all rfl
  · obtain rfl := vs_len0 h
    with_unfolding_all rfl
  · with_unfolding_all rfl
  · with_unfolding_all rfl
  · with_unfolding_all rfl
  · with_unfolding_all rfl
  · with_unfolding_all rfl
  · with_unfolding_all rfl
  · decide +kernel
  · decide +kernel
theorem fk312 : FnK Ω 312 fd312 [6] (bodyOf fd312) := by
  refine ⟨by rw [hΩ]; exact fl312 _, ?_, by rw [hΩ]; rfl, fun vs h => ?_, ?_, ?_, ?_, ?_, ?_, ?_, ?_, by decide, by decide, ?_⟩
  · with_unfolding_all rfl
  · obtain ⟨v0, rfl⟩ := vs_len1 h
    with_unfolding_all rfl
  · with_unfolding_all rfl
  · with_unfolding_all rfl
  · with_unfolding_all rfl
  · with_unfolding_all rfl
  · with_unfolding_all rfl
  · with_unfolding_all rfl
  · decide +kernel
  · decide +kernel
theorem fk317 : FnK Ω 317 fd317 [6] (bodyOf fd317) := by
  refine ⟨by rw [hΩ]; exact fl317 _, ?_, by rw [hΩ]; rfl, fun vs h => ?_, ?_, ?_, ?_, ?_, ?_, ?_, ?_, by decide, by decide, ?_⟩
  · with_unfolding_all rfl
  · obtain ⟨v0, rfl⟩ := vs_len1 h
    with_unfolding_all rfl
  · with_unfolding_all rfl
  · with_unfolding_all rfl
  · with_unfolding_all rfl
  · with_unfolding_all rfl
  · with_unfolding_all rfl
  · with_unfolding_all rfl
  · decide +kernel
  · decide +kernel
theorem fk324 : FnK Ω 324 fd324 [7] (bodyOf fd324) := by
  refine ⟨by rw [hΩ]; exact fl324 _, ?_, by rw [hΩ]; rfl, fun vs h => ?_, ?_, ?_, ?_, ?_, ?_, ?_, ?_, by decide, by decide, ?_⟩
  · with_unfolding_all rfl
  · obtain ⟨v0, rfl⟩ := vs_len1 h
    with_unfolding_all rfl
  · with_unfolding_all rfl
  · with_unfolding_all rfl
  · with_unfolding_all rfl
  · with_unfolding_all rfl
  · with_unfolding_all rfl
  · with_unfolding_all rfl
  · decide +kernel
  · decide +kernel
theorem fk331 : FnK Ω 331 fd331 [7, 10, 11] (bodyOf fd331) := by
  refine ⟨by rw [hΩ]; exact fl331 _, ?_, by rw [hΩ]; rfl, fun vs h => ?_, ?_, ?_, ?_, ?_, ?_, ?_, ?_, by decide, by decide, ?_⟩
  · with_unfolding_all rfl
  · obtain ⟨v0, v1, v2, rfl⟩ := vs_len3 h
    with_unfolding_all rfl
  · with_unfolding_all rfl
  · with_unfolding_all rfl
  · with_unfolding_all rfl
  · with_unfolding_all rfl
  · with_unfolding_all rfl
  · with_unfolding_all rfl
  · decide +kernel
  · decide +kernel
theorem fk338 : FnK Ω 338 fd338 [7, 10, 11] (bodyOf fd338) := by
  refine ⟨by rw [hΩ]; exact fl338 _, ?_, by rw [hΩ]; rfl, fun vs h => ?_, ?_, ?_, ?_, ?_, ?_, ?_, ?_, by decide, by decide, ?_⟩
  · with_unfolding_all rfl
  · obtain ⟨v0, v1, v2, rfl⟩ := vs_len3 h
    with_unfolding_all rfl
  · with_unfolding_all rfl
  · with_unfolding_all rfl
  · with_unfolding_all rfl
  · with_unfolding_all rfl
  · with_unfolding_all rfl
  · with_unfolding_all rfl
  · decide +kernel
  · decide +kernel
theorem fk345 : FnK Ω 345 fd345 [7, 12, 13] (bodyOf fd345) := by
  refine ⟨by rw [hΩ]; exact fl345 _, ?_, by rw [hΩ]; rfl, fun vs h => ?_, ?_, ?_, ?_, ?_, ?_, ?_, ?_, by decide, by decide, ?_⟩
  · with_unfolding_all rfl
  · obtain ⟨v0, v1, v2, rfl⟩ := vs_len3 h
    with_unfolding_all rfl
  · with_unfolding_all rfl
  · with_unfolding_all rfl
  · with_unfolding_all rfl
  · with_unfolding_all rfl
  · with_unfolding_all rfl
  · with_unfolding_all rfl
  · decide +kernel
  · decide +kernel
theorem fk350 : FnK Ω 350 fd350 [7] (bodyOf fd350) := by
  refine ⟨by rw [hΩ]; exact fl350 _, ?_, by rw [hΩ]; rfl, fun vs h => ?_, ?_, ?_, ?_, ?_, ?_, ?_, ?_, by decide, by decide, ?_⟩
  · with_unfolding_all rfl
  · obtain ⟨v0, rfl⟩ := vs_len1 h
    with_unfolding_all rfl
  · with_unfolding_all rfl
  · with_unfolding_all rfl
  · with_unfolding_all rfl
  · with_unfolding_all rfl
  · with_unfolding_all rfl
  · with_unfolding_all rfl
  · decide +kernel
  · decide +kernel
theorem fk355 : FnK Ω 355 fd355 [7, 12, 10] (bodyOf fd355) := by
  refine ⟨by rw [hΩ]; exact fl355 _, ?_, by rw [hΩ]; rfl, fun vs h => ?_, ?_, ?_, ?_, ?_, ?_, ?_, ?_, by decide, by decide, ?_⟩
  · with_unfolding_all rfl
  · obtain ⟨v0, v1, v2, rfl⟩ := vs_len3 h
    with_unfolding_all rfl
  · with_unfolding_all rfl
  · with_unfolding_all rfl
  · with_unfolding_all rfl
  · with_unfolding_all rfl
  · with_unfolding_all rfl
  · with_unfolding_all rfl
  · decide +kernel
  · decide +kernel
theorem fk362 : FnK Ω 362 fd362 [7, 12, 10] (bodyOf fd362) := by
  refine ⟨by rw [hΩ]; exact fl362 _, ?_, by rw [hΩ]; rfl, fun vs h => ?_, ?_, ?_, ?_, ?_, ?_, ?_, ?_, by decide, by decide, ?_⟩
  · with_unfolding_all rfl
  · obtain ⟨v0, v1, v2, rfl⟩ := vs_len3 h
    with_unfolding_all rfl
  · with_unfolding_all rfl
  · with_unfolding_all rfl
  · with_unfolding_all rfl
  · with_unfolding_all rfl
  · with_unfolding_all rfl
  · with_unfolding_all rfl
  · decide +kernel
  · decide +kernel
theorem fk367 : FnK Ω 367 fd367 [20, 10] (bodyOf fd367) := by
  refine ⟨by rw [hΩ]; exact fl367 _, ?_, by rw [hΩ]; rfl, fun vs h => ?_, ?_, ?_, ?_, ?_, ?_, ?_, ?_, by decide, by decide, ?_⟩
  · with_unfolding_all rfl
  · obtain ⟨v0, v1, rfl⟩ := vs_len2 h
    with_unfolding_all rfl
  · with_unfolding_all rfl
  · with_unfolding_all rfl
  · with_unfolding_all rfl
  · with_unfolding_all rfl
  · with_unfolding_all rfl
  · with_unfolding_all rfl
  · decide +kernel
  · decide +kernel
theorem fk374 : FnK Ω 374 fd374 [21, 22, 23, 10, 11] (bodyOf fd374) := by
  refine ⟨by rw [hΩ]; exact fl374 _, ?_, by rw [hΩ]; rfl, fun vs h => ?_, ?_, ?_, ?_, ?_, ?_, ?_, ?_, by decide, by decide, ?_⟩
  · with_unfolding_all rfl
  · obtain ⟨v0, v1, v2, v3, v4, rfl⟩ := vs_len5 h
    with_unfolding_all rfl
  · with_unfolding_all rfl
  · with_unfolding_all rfl
  · with_unfolding_all rfl
  · with_unfolding_all rfl
  · with_unfolding_all rfl
  · with_unfolding_all rfl
  · decide +kernel
  · decide +kernel
theorem fk379 : FnK Ω 379 fd379 [21, 22, 23, 10, 11] (bodyOf fd379) := by
  refine ⟨by rw [hΩ]; exact fl379 _, ?_, by rw [hΩ]; rfl, fun vs h => ?_, ?_, ?_, ?_, ?_, ?_, ?_, ?_, by decide, by decide, ?_⟩
  · with_unfolding_all rfl
  · obtain ⟨v0, v1, v2, v3, v4, rfl⟩ := vs_len5 h
    with_unfolding_all rfl
  · with_unfolding_all rfl
  · with_unfolding_all rfl
  · with_unfolding_all rfl
  · with_unfolding_all rfl
  · with_unfolding_all rfl
  · with_unfolding_all rfl
  · decide +kernel
  · decide +kernel
theorem fk386 : FnK Ω 386 fd386 [27, 21, 4, 5] (bodyOf fd386) := by
  refine ⟨by rw [hΩ]; exact fl386 _, ?_, by rw [hΩ]; rfl, fun vs h => ?_, ?_, ?_, ?_, ?_, ?_, ?_, ?_, by decide, by decide, ?_⟩
  · with_unfolding_all rfl
  · obtain ⟨v0, v1, v2, v3, rfl⟩ := vs_len4 h
    with_unfolding_all rfl
  · with_unfolding_all rfl
  · with_unfolding_all rfl
  · with_unfolding_all rfl
  · with_unfolding_all rfl
  · with_unfolding_all rfl
  · with_unfolding_all rfl
  · decide +kernel
  · decide +kernel
theorem fk393 : FnK Ω 393 fd393 [6] (bodyOf fd393) := by
  refine ⟨by rw [hΩ]; exact fl393 _, ?_, by rw [hΩ]; rfl, fun vs h => ?_, ?_, ?_, ?_, ?_, ?_, ?_, ?_, by decide, by decide, ?_⟩
  · with_unfolding_all rfl
  · obtain ⟨v0, rfl⟩ := vs_len1 h
    with_unfolding_all rfl
  · with_unfolding_all rfl
  · with_unfolding_all rfl
  · with_unfolding_all rfl
  · with_unfolding_all rfl
  · with_unfolding_all rfl
  · with_unfolding_all rfl
  · decide +kernel
  · decide +kernel
theorem fk400 : FnK Ω 400 fd400 [29] (bodyOf fd400) := by
  refine ⟨by rw [hΩ]; exact fl400 _, ?_, by rw [hΩ]; rfl, fun vs h => ?_, ?_, ?_, ?_, ?_, ?_, ?_, ?_, by decide, by decide, ?_⟩
  · with_unfolding_all rfl
  · obtain ⟨v0, rfl⟩ := vs_len1 h
    with_unfolding_all rfl
  · with_unfolding_all rfl
  · with_unfolding_all rfl
  · with_unfolding_all rfl
  · with_unfolding_all rfl
  · with_unfolding_all rfl
  · with_unfolding_all rfl
  · decide +kernel
  · decide +kernel
theorem kn_all : nsIn Ω.K mainGlobals (Str.ofString "range") = some none ∧
    nsIn Ω.K mainGlobals (Str.ofString "len") = some none ∧
    nsIn Ω.K mainGlobals (Str.ofString "enumerate") = some none ∧
    nsIn Ω.K mainGlobals (Str.ofString "list") = some none ∧
    nsIn Ω.K mainGlobals (Str.ofString "min") = some none ∧
    nsIn Ω.K mainGlobals (Str.ofString "max") = some none ∧
    nsIn Ω.K mainGlobals (Str.ofString "sum") = some none ∧
    nsIn Ω.K mainGlobals (Str.ofString "isinstance") = some none ∧
    nsIn Ω.K mainGlobals (Str.ofString "bool") = some none ∧
    nsIn Ω.K mainGlobals (Str.ofString "bytearray") = some none ∧
    nsIn Ω.K mainGlobals (Str.ofString "int") = some none ∧
    nsIn Ω.K mainGlobals (Str.ofString "ZeroDivisionError") = some none ∧
    nsIn Ω.K mainGlobals (Str.ofString "AssertionError") = some none ∧
    nsIn Ω.K mainGlobals (Str.ofString "_law_kinds") = some (some (.ref 298)) ∧
    nsIn Ω.K mainGlobals (Str.ofString "_law_names") = some (some (.ref 305)) ∧
    nsIn Ω.K mainGlobals (Str.ofString "_law_small") = some (some (.ref 312)) ∧
    nsIn Ω.K mainGlobals (Str.ofString "_law_row") = some (some (.ref 317)) ∧
    nsIn Ω.K mainGlobals (Str.ofString "_law_number") = some (some (.ref 324)) ∧
    nsIn Ω.K mainGlobals (Str.ofString "_law_grown") = some (some (.ref 331)) ∧
    nsIn Ω.K mainGlobals (Str.ofString "_law_clamped") = some (some (.ref 338)) ∧
    nsIn Ω.K mainGlobals (Str.ofString "_law_sum") = some (some (.ref 345)) ∧
    nsIn Ω.K mainGlobals (Str.ofString "_law_minus") = some (some (.ref 350)) ∧
    nsIn Ω.K mainGlobals (Str.ofString "_law_product") = some (some (.ref 355)) ∧
    nsIn Ω.K mainGlobals (Str.ofString "_law_divided") = some (some (.ref 362)) ∧
    nsIn Ω.K mainGlobals (Str.ofString "_law_packed") = some (some (.ref 367)) ∧
    nsIn Ω.K mainGlobals (Str.ofString "_law_quotient") = some (some (.ref 374)) ∧
    nsIn Ω.K mainGlobals (Str.ofString "_law_due") = some (some (.ref 379)) ∧
    nsIn Ω.K mainGlobals (Str.ofString "_law_told") = some (some (.ref 386)) ∧
    nsIn Ω.K mainGlobals (Str.ofString "_law_refused") = some (some (.ref 393)) ∧
    nsIn Ω.K mainGlobals (Str.ofString "law") = some (some (.ref 400)) ∧
    nsIn Ω.K mainGlobals (Str.ofString "i8") = some (some (.ref 275)) ∧
    nsIn Ω.K mainGlobals (Str.ofString "u8") = some (some (.ref 278)) ∧
    nsIn Ω.K mainGlobals (Str.ofString "i16") = some (some (.ref 281)) ∧
    nsIn Ω.K mainGlobals (Str.ofString "u16") = some (some (.ref 284)) ∧
    nsIn Ω.K mainGlobals (Str.ofString "i64") = some (some (.ref 287)) ∧
    nsIn Ω.K mainGlobals (Str.ofString "u64") = some (some (.ref 290)) ∧
    keepIn Ω.K (.ref 298) = true ∧
    keepIn Ω.K (.ref 305) = true ∧
    keepIn Ω.K (.ref 312) = true ∧
    keepIn Ω.K (.ref 317) = true ∧
    keepIn Ω.K (.ref 324) = true ∧
    keepIn Ω.K (.ref 331) = true ∧
    keepIn Ω.K (.ref 338) = true ∧
    keepIn Ω.K (.ref 345) = true ∧
    keepIn Ω.K (.ref 350) = true ∧
    keepIn Ω.K (.ref 355) = true ∧
    keepIn Ω.K (.ref 362) = true ∧
    keepIn Ω.K (.ref 367) = true ∧
    keepIn Ω.K (.ref 374) = true ∧
    keepIn Ω.K (.ref 379) = true ∧
    keepIn Ω.K (.ref 386) = true ∧
    keepIn Ω.K (.ref 393) = true := by
  rw [hΩ]
  exact ⟨rfl, rfl, rfl, rfl, rfl, rfl, rfl, rfl, rfl, rfl, rfl, rfl, rfl, rfl, rfl, rfl, rfl, rfl, rfl, rfl, rfl, rfl, rfl, rfl, rfl, rfl, rfl, rfl, rfl, rfl, rfl, rfl, rfl, rfl, rfl, rfl, rfl, rfl, rfl, rfl, rfl, rfl, rfl, rfl, rfl, rfl, rfl, rfl, rfl, rfl, rfl, rfl⟩
theorem kb_range : nsIn Ω.K mainGlobals (Str.ofString "range") = some none := (kn_all hΩ).1
theorem kb_len : nsIn Ω.K mainGlobals (Str.ofString "len") = some none := (kn_all hΩ).2.1
theorem kb_enumerate : nsIn Ω.K mainGlobals (Str.ofString "enumerate") = some none := (kn_all hΩ).2.2.1
theorem kb_list : nsIn Ω.K mainGlobals (Str.ofString "list") = some none := (kn_all hΩ).2.2.2.1
theorem kb_min : nsIn Ω.K mainGlobals (Str.ofString "min") = some none := (kn_all hΩ).2.2.2.2.1
theorem kb_max : nsIn Ω.K mainGlobals (Str.ofString "max") = some none := (kn_all hΩ).2.2.2.2.2.1
theorem kb_sum : nsIn Ω.K mainGlobals (Str.ofString "sum") = some none := (kn_all hΩ).2.2.2.2.2.2.1
theorem kb_isinstance : nsIn Ω.K mainGlobals (Str.ofString "isinstance") = some none := (kn_all hΩ).2.2.2.2.2.2.2.1
theorem kb_bool : nsIn Ω.K mainGlobals (Str.ofString "bool") = some none := (kn_all hΩ).2.2.2.2.2.2.2.2.1
theorem kb_bytearray : nsIn Ω.K mainGlobals (Str.ofString "bytearray") = some none := (kn_all hΩ).2.2.2.2.2.2.2.2.2.1
theorem kb_int : nsIn Ω.K mainGlobals (Str.ofString "int") = some none := (kn_all hΩ).2.2.2.2.2.2.2.2.2.2.1
theorem kb_ZeroDivisionError : nsIn Ω.K mainGlobals (Str.ofString "ZeroDivisionError") = some none := (kn_all hΩ).2.2.2.2.2.2.2.2.2.2.2.1
theorem kb_AssertionError : nsIn Ω.K mainGlobals (Str.ofString "AssertionError") = some none := (kn_all hΩ).2.2.2.2.2.2.2.2.2.2.2.2.1
theorem kg_law_kinds : nsIn Ω.K mainGlobals (Str.ofString "_law_kinds") = some (some (.ref 298)) := (kn_all hΩ).2.2.2.2.2.2.2.2.2.2.2.2.2.1
theorem kg_law_names : nsIn Ω.K mainGlobals (Str.ofString "_law_names") = some (some (.ref 305)) := (kn_all hΩ).2.2.2.2.2.2.2.2.2.2.2.2.2.2.1
theorem kg_law_small : nsIn Ω.K mainGlobals (Str.ofString "_law_small") = some (some (.ref 312)) := (kn_all hΩ).2.2.2.2.2.2.2.2.2.2.2.2.2.2.2.1
theorem kg_law_row : nsIn Ω.K mainGlobals (Str.ofString "_law_row") = some (some (.ref 317)) := (kn_all hΩ).2.2.2.2.2.2.2.2.2.2.2.2.2.2.2.2.1
theorem kg_law_number : nsIn Ω.K mainGlobals (Str.ofString "_law_number") = some (some (.ref 324)) := (kn_all hΩ).2.2.2.2.2.2.2.2.2.2.2.2.2.2.2.2.2.1
theorem kg_law_grown : nsIn Ω.K mainGlobals (Str.ofString "_law_grown") = some (some (.ref 331)) := (kn_all hΩ).2.2.2.2.2.2.2.2.2.2.2.2.2.2.2.2.2.2.1
theorem kg_law_clamped : nsIn Ω.K mainGlobals (Str.ofString "_law_clamped") = some (some (.ref 338)) := (kn_all hΩ).2.2.2.2.2.2.2.2.2.2.2.2.2.2.2.2.2.2.2.1
theorem kg_law_sum : nsIn Ω.K mainGlobals (Str.ofString "_law_sum") = some (some (.ref 345)) := (kn_all hΩ).2.2.2.2.2.2.2.2.2.2.2.2.2.2.2.2.2.2.2.2.1
theorem kg_law_minus : nsIn Ω.K mainGlobals (Str.ofString "_law_minus") = some (some (.ref 350)) := (kn_all hΩ).2.2.2.2.2.2.2.2.2.2.2.2.2.2.2.2.2.2.2.2.2.1
theorem kg_law_product : nsIn Ω.K mainGlobals (Str.ofString "_law_product") = some (some (.ref 355)) := (kn_all hΩ).2.2.2.2.2.2.2.2.2.2.2.2.2.2.2.2.2.2.2.2.2.2.1
theorem kg_law_divided : nsIn Ω.K mainGlobals (Str.ofString "_law_divided") = some (some (.ref 362)) := (kn_all hΩ).2.2.2.2.2.2.2.2.2.2.2.2.2.2.2.2.2.2.2.2.2.2.2.1
theorem kg_law_packed : nsIn Ω.K mainGlobals (Str.ofString "_law_packed") = some (some (.ref 367)) := (kn_all hΩ).2.2.2.2.2.2.2.2.2.2.2.2.2.2.2.2.2.2.2.2.2.2.2.2.1
theorem kg_law_quotient : nsIn Ω.K mainGlobals (Str.ofString "_law_quotient") = some (some (.ref 374)) := (kn_all hΩ).2.2.2.2.2.2.2.2.2.2.2.2.2.2.2.2.2.2.2.2.2.2.2.2.2.1
theorem kg_law_due : nsIn Ω.K mainGlobals (Str.ofString "_law_due") = some (some (.ref 379)) := (kn_all hΩ).2.2.2.2.2.2.2.2.2.2.2.2.2.2.2.2.2.2.2.2.2.2.2.2.2.2.1
theorem kg_law_told : nsIn Ω.K mainGlobals (Str.ofString "_law_told") = some (some (.ref 386)) := (kn_all hΩ).2.2.2.2.2.2.2.2.2.2.2.2.2.2.2.2.2.2.2.2.2.2.2.2.2.2.2.1
theorem kg_law_refused : nsIn Ω.K mainGlobals (Str.ofString "_law_refused") = some (some (.ref 393)) := (kn_all hΩ).2.2.2.2.2.2.2.2.2.2.2.2.2.2.2.2.2.2.2.2.2.2.2.2.2.2.2.2.1
theorem kg_i8 : nsIn Ω.K mainGlobals (Str.ofString "i8") = some (some (.ref 275)) := (kn_all hΩ).2.2.2.2.2.2.2.2.2.2.2.2.2.2.2.2.2.2.2.2.2.2.2.2.2.2.2.2.2.2.1
theorem kg_u8 : nsIn Ω.K mainGlobals (Str.ofString "u8") = some (some (.ref 278)) := (kn_all hΩ).2.2.2.2.2.2.2.2.2.2.2.2.2.2.2.2.2.2.2.2.2.2.2.2.2.2.2.2.2.2.2.1
theorem kg_i16 : nsIn Ω.K mainGlobals (Str.ofString "i16") = some (some (.ref 281)) := (kn_all hΩ).2.2.2.2.2.2.2.2.2.2.2.2.2.2.2.2.2.2.2.2.2.2.2.2.2.2.2.2.2.2.2.2.1
theorem kg_u16 : nsIn Ω.K mainGlobals (Str.ofString "u16") = some (some (.ref 284)) := (kn_all hΩ).2.2.2.2.2.2.2.2.2.2.2.2.2.2.2.2.2.2.2.2.2.2.2.2.2.2.2.2.2.2.2.2.2.1
theorem kg_i64 : nsIn Ω.K mainGlobals (Str.ofString "i64") = some (some (.ref 287)) := (kn_all hΩ).2.2.2.2.2.2.2.2.2.2.2.2.2.2.2.2.2.2.2.2.2.2.2.2.2.2.2.2.2.2.2.2.2.2.1
theorem kg_u64 : nsIn Ω.K mainGlobals (Str.ofString "u64") = some (some (.ref 290)) := (kn_all hΩ).2.2.2.2.2.2.2.2.2.2.2.2.2.2.2.2.2.2.2.2.2.2.2.2.2.2.2.2.2.2.2.2.2.2.2.1
theorem kk_law_kinds : keepIn Ω.K (.ref 298) = true := (kn_all hΩ).2.2.2.2.2.2.2.2.2.2.2.2.2.2.2.2.2.2.2.2.2.2.2.2.2.2.2.2.2.2.2.2.2.2.2.2.1
theorem kk_law_names : keepIn Ω.K (.ref 305) = true := (kn_all hΩ).2.2.2.2.2.2.2.2.2.2.2.2.2.2.2.2.2.2.2.2.2.2.2.2.2.2.2.2.2.2.2.2.2.2.2.2.2.1
theorem kk_law_small : keepIn Ω.K (.ref 312) = true := (kn_all hΩ).2.2.2.2.2.2.2.2.2.2.2.2.2.2.2.2.2.2.2.2.2.2.2.2.2.2.2.2.2.2.2.2.2.2.2.2.2.2.1
theorem kk_law_row : keepIn Ω.K (.ref 317) = true := (kn_all hΩ).2.2.2.2.2.2.2.2.2.2.2.2.2.2.2.2.2.2.2.2.2.2.2.2.2.2.2.2.2.2.2.2.2.2.2.2.2.2.2.1
theorem kk_law_number : keepIn Ω.K (.ref 324) = true := (kn_all hΩ).2.2.2.2.2.2.2.2.2.2.2.2.2.2.2.2.2.2.2.2.2.2.2.2.2.2.2.2.2.2.2.2.2.2.2.2.2.2.2.2.1
theorem kk_law_grown : keepIn Ω.K (.ref 331) = true := (kn_all hΩ).2.2.2.2.2.2.2.2.2.2.2.2.2.2.2.2.2.2.2.2.2.2.2.2.2.2.2.2.2.2.2.2.2.2.2.2.2.2.2.2.2.1
theorem kk_law_clamped : keepIn Ω.K (.ref 338) = true := (kn_all hΩ).2.2.2.2.2.2.2.2.2.2.2.2.2.2.2.2.2.2.2.2.2.2.2.2.2.2.2.2.2.2.2.2.2.2.2.2.2.2.2.2.2.2.1
theorem kk_law_sum : keepIn Ω.K (.ref 345) = true := (kn_all hΩ).2.2.2.2.2.2.2.2.2.2.2.2.2.2.2.2.2.2.2.2.2.2.2.2.2.2.2.2.2.2.2.2.2.2.2.2.2.2.2.2.2.2.2.1
theorem kk_law_minus : keepIn Ω.K (.ref 350) = true := (kn_all hΩ).2.2.2.2.2.2.2.2.2.2.2.2.2.2.2.2.2.2.2.2.2.2.2.2.2.2.2.2.2.2.2.2.2.2.2.2.2.2.2.2.2.2.2.2.1
theorem kk_law_product : keepIn Ω.K (.ref 355) = true := (kn_all hΩ).2.2.2.2.2.2.2.2.2.2.2.2.2.2.2.2.2.2.2.2.2.2.2.2.2.2.2.2.2.2.2.2.2.2.2.2.2.2.2.2.2.2.2.2.2.1
theorem kk_law_divided : keepIn Ω.K (.ref 362) = true := (kn_all hΩ).2.2.2.2.2.2.2.2.2.2.2.2.2.2.2.2.2.2.2.2.2.2.2.2.2.2.2.2.2.2.2.2.2.2.2.2.2.2.2.2.2.2.2.2.2.2.1
theorem kk_law_packed : keepIn Ω.K (.ref 367) = true := (kn_all hΩ).2.2.2.2.2.2.2.2.2.2.2.2.2.2.2.2.2.2.2.2.2.2.2.2.2.2.2.2.2.2.2.2.2.2.2.2.2.2.2.2.2.2.2.2.2.2.2.1
theorem kk_law_quotient : keepIn Ω.K (.ref 374) = true := (kn_all hΩ).2.2.2.2.2.2.2.2.2.2.2.2.2.2.2.2.2.2.2.2.2.2.2.2.2.2.2.2.2.2.2.2.2.2.2.2.2.2.2.2.2.2.2.2.2.2.2.2.1
theorem kk_law_due : keepIn Ω.K (.ref 379) = true := (kn_all hΩ).2.2.2.2.2.2.2.2.2.2.2.2.2.2.2.2.2.2.2.2.2.2.2.2.2.2.2.2.2.2.2.2.2.2.2.2.2.2.2.2.2.2.2.2.2.2.2.2.2.1
theorem kk_law_told : keepIn Ω.K (.ref 386) = true := (kn_all hΩ).2.2.2.2.2.2.2.2.2.2.2.2.2.2.2.2.2.2.2.2.2.2.2.2.2.2.2.2.2.2.2.2.2.2.2.2.2.2.2.2.2.2.2.2.2.2.2.2.2.2.1
theorem kk_law_refused : keepIn Ω.K (.ref 393) = true := (kn_all hΩ).2.2.2.2.2.2.2.2.2.2.2.2.2.2.2.2.2.2.2.2.2.2.2.2.2.2.2.2.2.2.2.2.2.2.2.2.2.2.2.2.2.2.2.2.2.2.2.2.2.2.2
theorem kc_from : findCls Ω.K (.type "int") (.type "type") (Str.ofString "from_bytes") = some (.get (.builtin "classmethod_descriptor.__get__") (.builtin "int.from_bytes") .none (.type "int")) := by rw [hΩ]; rfl
end
end Mine
end
section
open PySem PySem.W PyProof.Rows PySem.Calls
set_option Elab.async false
set_option linter.all false
set_option autoImplicit false
set_option maxRecDepth 100000
namespace Mine
theorem allN {P : Nat → Prop} : ∀ i ∈ ([] : List Nat), P i := fun _ h => by cases h
theorem allC {P : Nat → Prop} {a : Nat} {l : List Nat} (h : P a) (hs : ∀ i ∈ l, P i) : ∀ i ∈ a :: l, P i := fun i hi => by
  rcases List.mem_cons.mp hi with rfl | hi
  · exact h
  · exact hs i hi
theorem fvOk_nil {c : Ctx} {scope : Scope} {cl : List (Str × Addr)} : FvOk c scope cl [] := fun _ h => by cases h
theorem fvOk_cons {c : Ctx} {scope : Scope} {cl : List (Str × Addr)} {j : Nat} {fv : List Nat} (hk : c.env.kindOf (nm j) = some .cell)
    (h : ∀ C, (compEnv scope cl C c.env).kindOf (nm j) = some .cell ∧ (compEnv scope cl C c.env).cells.lookup (nm j) = c.env.cells.lookup (nm j)) (r : FvOk c scope cl fv) : FvOk c scope cl (j :: fv) := fun i hi => by
  rcases List.mem_cons.mp hi with rfl | hi
  · exact ⟨fun q => (by rw [hk] at q; cases q), h⟩
  · exact r i hi
noncomputable def notStar : Expr → Bool
  | .Starred .. => false
  | _ => true
theorem star_cons {e : Expr} {es : List Expr} {env : Env} (h : notStar e = true) : starEach (e :: es) env = (false, eval e env) :: starEach es env := by
  cases e <;> first | rfl | cases h
structure Wr (p : Prop) : Prop where
  h : p
section
variable {Ω : Wd} {n : Nat} {c : Ctx}
theorem ev_varW (i : Nat) (pos : Pos) : Wr (EV Ω n c (.Name (nm i) pos) (tVar i)) := ⟨ev_var i pos⟩
theorem ev_intW (i : Int) (k : Nat) (pos : Pos) : Wr (EV Ω n c (.Constant (.int i) k pos) (tLit (.int i))) := ⟨ev_int i k pos⟩
theorem ev_boolW (b : Bool) (k : Nat) (pos : Pos) : Wr (EV Ω n c (.Constant (.bool b) k pos) (tLit (.bool b))) := ⟨ev_bool b k pos⟩
theorem ev_strW (i : Nat) (h : i < 18) (k : Nat) (pos : Pos) : Wr (EV Ω n c (.Constant (.str (tx i)) k pos) (tLit (.str i))) := ⟨ev_str i h k pos⟩
theorem ev_binW {op : Operator} {l r : Expr} {pos : Pos} {tl tr : TE} {f : OpT} (ho : OpOk Ω n c (binaryOp op) f) (hl : Wr (EV Ω n c l tl)) (hr : Wr (EV Ω n c r tr)) : Wr (EV Ω n c (.BinOp l op r pos) (tBin f tl tr)) := ⟨ev_bin ho hl.h hr.h⟩
theorem ev_cmpW {op : CmpOp} {l r : Expr} {pos : Pos} {tl tr : TE} {f : OpT} (ho : OpOk Ω n c (compareOp op) f) (hl : Wr (EV Ω n c l tl)) (hr : Wr (EV Ω n c r tr)) (hm : behindInMarks op r = false := by with_unfolding_all rfl) : Wr (EV Ω n c (.Compare l [op] [r] pos) (tBin f tl tr)) := ⟨ev_cmp ho hl.h hr.h hm⟩
theorem tv_cmpW {op : CmpOp} {l r : Expr} {pos : Pos} {tl tr : TE} {f : OpT} (ho : OpOk Ω n c (compareOp op) f) (hl : Wr (EV Ω n c l tl)) (hr : Wr (EV Ω n c r tr)) (hm : behindInMarks op r = false := by with_unfolding_all rfl) : Wr (TV Ω n c (.Compare l [op] [r] pos) (tTest (tBin f tl tr))) := ⟨tv_cmp ho hl.h hr.h hm⟩
theorem tv_nameW {x : Str} {pos : Pos} {t : TE} (h : Wr (EV Ω n c (.Name x pos) t)) : Wr (TV Ω n c (.Name x pos) (tTest t)) := ⟨tv_name h.h⟩
theorem tv_andW {l r : Expr} {pos : Pos} {tl tr : TB} (hl : Wr (TV Ω n c l tl)) (hr : Wr (TV Ω n c r tr)) : Wr (TV Ω n c (.BoolOp .And [l, r] pos) (tAnd tl tr)) := ⟨tv_and hl.h hr.h⟩
theorem tv_orW {l r : Expr} {pos : Pos} {tl tr : TB} (hl : Wr (TV Ω n c l tl)) (hr : Wr (TV Ω n c r tr)) : Wr (TV Ω n c (.BoolOp .Or [l, r] pos) (tOr tl tr)) := ⟨tv_or hl.h hr.h⟩
theorem ev_iteW {t a b : Expr} {pos : Pos} {tt : TB} {ta tb : TE} (ht : Wr (TV Ω n c t tt)) (ha : Wr (EV Ω n c a ta)) (hb : Wr (EV Ω n c b tb)) : Wr (EV Ω n c (.IfExp t a b pos) (tIte tt ta tb)) := ⟨ev_ite ht.h ha.h hb.h⟩
theorem ev_negW {x : Expr} {pos : Pos} {t : TE} (h : Wr (EV Ω n c x t)) : Wr (EV Ω n c (.UnaryOp .USub x pos) (tNeg t)) := ⟨ev_neg h.h⟩
theorem evs_nilW  : Wr (EVs Ω n c [] lNil) := ⟨evs_nil ⟩
theorem evs_consW {e : Expr} {es : List Expr} {t : TE} {ts : TL} (h : Wr (EV Ω n c e t)) (hs : Wr (EVs Ω n c es ts)) (hst : notStar e = true := by rfl) : Wr (EVs Ω n c (e :: es) (lCons t ts)) := ⟨evs_cons h.h hs.h (star_cons hst)⟩
theorem ev_listW {es : List Expr} {pos : Pos} {ts : TL} (hs : Wr (EVs Ω n c es ts)) : Wr (EV Ω n c (.List es pos) (tList ts)) := ⟨ev_list hs.h⟩
theorem ev_tupW {es : List Expr} {k : Nat} {pos : Pos} {ts : TL} (hs : Wr (EVs Ω n c es ts)) : Wr (EV Ω n c (.Tuple es k pos) (tTup ts)) := ⟨ev_tup hs.h⟩
theorem ev_idxW {x i : Expr} {pos : Pos} {tx ti : TE} (hx : Wr (EV Ω n c x tx)) (hi : Wr (EV Ω n c i ti)) (hs : ∀ (o v : Value), subscripted i false o v = operate [o, v] (getItem o v) := by intro _ _; with_unfolding_all rfl) : Wr (EV Ω n c (.Subscript x i pos) (tBin dIdx tx ti)) := ⟨ev_idx hx.h hi.h hs⟩
theorem evo_noneW  : Wr (EVo Ω n c none oNone) := ⟨evo_none ⟩
theorem evo_someW {e : Expr} {t : TE} (h : Wr (EV Ω n c e t)) : Wr (EVo Ω n c (some e) (oSome t)) := ⟨evo_some h.h⟩
theorem ev_sliceW {x : Expr} {lo hi : Option Expr} {p pos : Pos} {tx : TE} {tl tu : TO} (hx : Wr (EV Ω n c x tx)) (hlo : Wr (EVo Ω n c lo tl)) (hhi : Wr (EVo Ω n c hi tu)) : Wr (EV Ω n c (.Subscript x (.Slice lo hi none p) pos) (tSlice tx tl tu)) := ⟨ev_slice hx.h hlo.h hhi.h⟩
theorem ev_topW {x : Str} {pos : Pos} {a : Addr} (hx : c.env.kindOf x = some .globalImplicit) (hK : nsIn Ω.K mainGlobals x = some (some (.ref a))) (hd : (x == ("__debug__" : Str)) = false) : Wr (EV Ω n c (.Name x pos) (tLit (.ref a))) := ⟨ev_top hx hK hd⟩
theorem ev_callW {x : Str} {np pos : Pos} {e : Expr} {es : List Expr} {f : Addr} {τ : FT} {ts : TL} (hfe : c.env = c.fenv) (hx : c.env.kindOf x = some .globalImplicit) (hK : nsIn Ω.K mainGlobals x = some (some (.ref f))) (hd : (x == ("__debug__" : Str)) = false) (hk : keepIn Ω.K (.ref f) = true) (hf : Spec Ω n (.ref f) τ) (hs : Wr (EVs Ω n c (e :: es) ts)) (hst : notStar e = true := by rfl) (hpl : (backTo pos (starEach es c.env)).any (·.1) = false := by with_unfolding_all rfl) : Wr (EV Ω n c (.Call (.Name x np) (e :: es) [] pos) (tCall τ ts)) := ⟨ev_call hfe hx hK hd hk hf hs.h (star_cons hst) hpl⟩
theorem ev_call0W {x : Str} {np pos : Pos} {f : Addr} {τ : FT} (hfe : c.env = c.fenv) (hx : c.env.kindOf x = some .globalImplicit) (hK : nsIn Ω.K mainGlobals x = some (some (.ref f))) (hd : (x == ("__debug__" : Str)) = false) (hk : keepIn Ω.K (.ref f) = true) (hf : Spec Ω n (.ref f) τ) : Wr (EV Ω n c (.Call (.Name x np) [] [] pos) (tCall τ lNil)) := ⟨ev_call0 hfe hx hK hd hk hf⟩
theorem ev_methW {o : Expr} {name : Str} {apos pos : Pos} {e : Expr} {es : List Expr} {t : TE} {ts : TL} {pl : Sem Bool} (hfe : c.env = c.fenv) (ho : Wr (EV Ω n c o t)) (hs : Wr (EVs Ω n c (e :: es) ts)) (he : eval (.Call (.Attribute o name apos) (e :: es) [] pos) c.env = (do
      let ov ← eval o c.env
      standAt apos.atName
      let (f, first) ← holding [ov] (getMethod ov name pl)
      callWith pos f first (backTo pos (starEach (e :: es) c.env)) []) := by with_unfolding_all rfl) (hst : notStar e = true := by rfl) (hpl : (backTo pos (starEach es c.env)).any (·.1) = false := by with_unfolding_all rfl) : Wr (EV Ω n c (.Call (.Attribute o name apos) (e :: es) [] pos) (tMeth Ω n name t ts)) := ⟨ev_meth hfe ho.h hs.h he (star_cons hst) hpl⟩
theorem ev_attrW {x : Str} {xp pos : Pos} {name : Str} {t : TE} (ho : Wr (EV Ω n c (.Name x xp) t)) : Wr (EV Ω n c (.Attribute (.Name x xp) name pos) (tAttr Ω name t)) := ⟨ev_attr ho.h⟩
theorem ev_bcallW {x : Str} {np pos : Pos} {e : Expr} {es : List Expr} {id : String} {τ : FT} {ts : TL} (hx : c.env.kindOf x = some .globalImplicit) (hK : nsIn Ω.K mainGlobals x = some none) (hb : bootBuiltins x = some (.builtin id)) (hn : x ≠ "__name__") (hd : (x == ("__debug__" : Str)) = false) (hf : BSpec Ω n (.builtin id) τ) (hs : Wr (EVs Ω n c (e :: es) ts)) (hst : notStar e = true := by rfl) (hpl : (backTo pos (starEach es c.env)).any (·.1) = false := by with_unfolding_all rfl) : Wr (EV Ω n c (.Call (.Name x np) (e :: es) [] pos) (tCall τ ts)) := ⟨ev_bcall hx hK hb hn hd hf hs.h (star_cons hst) hpl⟩
theorem ev_tcallW {x : Str} {np pos : Pos} {e : Expr} {es : List Expr} {T : String} {τ : FT} {ts : TL} (hx : c.env.kindOf x = some .globalImplicit) (hK : nsIn Ω.K mainGlobals x = some none) (hb : bootBuiltins x = some (.type T)) (hn : x ≠ "__name__") (hd : (x == ("__debug__" : Str)) = false) (hf : BSpec Ω n (.type T) τ) (hs : Wr (EVs Ω n c (e :: es) ts)) (hst : notStar e = true := by rfl) (hpl : (backTo pos (starEach es c.env)).any (·.1) = false := by with_unfolding_all rfl) : Wr (EV Ω n c (.Call (.Name x np) (e :: es) [] pos) (tCall τ ts)) := ⟨ev_tcall hx hK hb hn hd hf hs.h (star_cons hst) hpl⟩
theorem exs_nilW  : Wr (EXs Ω n c [] sNil) := ⟨exs_nil ⟩
theorem exs_consW {st : Stmt} {rest : List Stmt} {t ts : TS} (h : Wr (EX Ω n c st t)) (hs : Wr (EXs Ω n c rest ts)) : Wr (EXs Ω n c (st :: rest) (sCons t ts)) := ⟨exs_cons h.h hs.h⟩
theorem ex_assignW {i : Nat} {np pos : Pos} {x : Expr} {t : TE} (hp : Place c i) (h : Wr (EV Ω n c x t)) (hs : swapsWith x (some (.Name (nm i) np)) pos.line c.env = pure false := by with_unfolding_all rfl) : Wr (EX Ω n c (.Assign [.Name (nm i) np] x pos) (sAssign i t)) := ⟨ex_assign hp h.h hs⟩
theorem ex_retW {pos : Pos} {x : Expr} {t : TE} (h : Wr (EV Ω n c x t)) : Wr (EX Ω n c (.Return (some x) pos) (sRet t)) := ⟨ex_ret h.h⟩
theorem ex_ifW {t : Expr} {xs ys : List Stmt} {pos : Pos} {tt : TB} {tx ty : TS} (ht : Wr (TV Ω n c t tt)) (hx : Wr (EXs Ω n c xs tx)) (hy : Wr (EXs Ω n c ys ty)) : Wr (EX Ω n c (.If t xs ys pos) (sIf tt tx ty)) := ⟨ex_if ht.h hx.h hy.h⟩
theorem ex_breakW {pos : Pos} : Wr (EX Ω n c (.Break pos) (sFlow .brk)) := ⟨ex_break ⟩
theorem ex_continueW {pos : Pos} : Wr (EX Ω n c (.Continue pos) (sFlow .cont)) := ⟨ex_continue ⟩
theorem ex_assertW {t : Expr} {pos : Pos} {tt : TB} (ht : Wr (TV Ω n c t tt)) : Wr (EX Ω n c (.Assert t none pos) (sAssert tt)) := ⟨ex_assert ht.h⟩
theorem ex_augW {i : Nat} {op : Operator} {np pos : Pos} {x : Expr} {t : TE} {f : OpT} (hp : Place c i) (ho : OpOk Ω n c (inplaceOp op) f) (h : Wr (EV Ω n c x t)) : Wr (EX Ω n c (.AugAssign (.Name (nm i) np) op x pos) (sAug i f t)) := ⟨ex_aug hp ho h.h⟩
theorem ex_assignTupW {is : List Nat} {es : List Expr} {k : Nat} {tp pos : Pos} {x : Expr} {t : TE} (hn : NmE is es) (hp : ∀ i ∈ is, Place c i) (h : Wr (EV Ω n c x t)) (hs : swapsWithSole [.Tuple es k tp] x pos.line c.env = pure false := by with_unfolding_all rfl) (hw : swappedStores [.Tuple es k tp] x c.env = pure none := by with_unfolding_all rfl) : Wr (EX Ω n c (.Assign [.Tuple es k tp] x pos) (sAssignTup is t)) := ⟨ex_assignTup hn hp h.h hs hw⟩
theorem ev_idxOwnW {i : Nat} {x : Expr} {np pos : Pos} {t : TE} (hp : OwnPl c i) (hi : Wr (EV Ω n c x t)) (hs : ∀ (o v : Value), subscripted x false o v = operate [o, v] (getItem o v) := by intro _ _; with_unfolding_all rfl) : Wr (EV Ω n c (.Subscript (.Name (nm i) np) x pos) (tIdxOwn i t)) := ⟨ev_idxOwn hp hi.h hs⟩
theorem ex_appendW {i : Nat} {x : Expr} {np ap cp pos : Pos} {t : TE} {pl : Sem Bool} (hp : OwnPl c i) (h : Wr (EV Ω n c x t)) (hi : interactive c.env = false := by with_unfolding_all rfl) (hsw : swapsWith (.Call (.Attribute (.Name (nm i) np) "append" ap) [x] [] cp) none pos.line c.env = pure false := by with_unfolding_all rfl) (he : eval (.Call (.Attribute (.Name (nm i) np) "append" ap) [x] [] cp) c.env = (do
      let ov ← eval (.Name (nm i) np) c.env
      standAt ap.atName
      let (f, first) ← holding [ov] (getMethod ov "append" pl)
      callWith cp f first (backTo cp (starEach [x] c.env)) []) := by with_unfolding_all rfl) (hst : starEach [x] c.env = (false, eval x c.env) :: starEach [] c.env := by with_unfolding_all rfl) : Wr (EX Ω n c (.Expr (.Call (.Attribute (.Name (nm i) np) "append" ap) [x] [] cp) pos) (sAppend i t)) := ⟨ex_append hp h.h hi hsw he hst⟩
theorem ex_retOwnW {i : Nat} {np pos : Pos} (hp : OwnPl c i) : Wr (EX Ω n c (.Return (some (.Name (nm i) np)) pos) (sRetOwn i)) := ⟨ex_retOwn hp⟩
theorem ex_ownW {i : Nat} {es : List Expr} {np lp pos : Pos} {ts : TL} (loc : List Nat) (hp : OwnPl c i) (hl : ∀ j ∈ loc, c.env.kindOf (nm j) = some .local) (h : Wr (EVs Ω n c es ts)) (hs : swapsWith (.List es lp) (some (.Name (nm i) np)) pos.line c.env = pure false := by with_unfolding_all rfl) : Wr (EX Ω n c (.Assign [.Name (nm i) np] (.List es lp) pos) (sOwn loc i ts)) := ⟨ex_own loc hp hl h.h hs⟩
theorem ex_forRW {x : Nat} {px np cp pos : Pos} {e : Expr} {body : List Stmt} {t : TE} {tb : TS} (hp : Place c x) (hi : Wr (EV Ω n c e t)) (hb : ∀ O', Wr (EXs Ω n (c.withO O') body tb)) (hx : c.env.kindOf "range" = some .globalImplicit) (hK : nsIn Ω.K mainGlobals "range" = some none) (hs : ∀ y, foldedSetIterable (.Call (.Name "range" np) [e] [] cp) c.env y = pure y := by intro _; with_unfolding_all rfl) (hst : starEach [e] c.env = (false, eval e c.env) :: starEach [] c.env := by with_unfolding_all rfl) : Wr (EX Ω n c (.For (.Name (nm x) px) (.Call (.Name "range" np) [e] [] cp) body [] pos) (sForR x t tb)) := ⟨ex_forR hp hi.h (fun O' => (hb O').h) hx hK hs hst⟩
theorem ex_forLTW {is : List Nat} {es : List Expr} {kk : Nat} {px pos : Pos} {iter : Expr} {body : List Stmt} {t : TE} {tb : TS} (hn : NmE is es) (hp : ∀ i ∈ is, Place c i) (hi : Wr (EV Ω n c iter t)) (hb : ∀ O', Wr (EXs Ω n (c.withO O') body tb)) (hs : ∀ y, foldedSetIterable iter c.env y = pure y := by intro _; with_unfolding_all rfl) : Wr (EX Ω n c (.For (.Tuple es kk px) iter body [] pos) (sForLT is t tb)) := ⟨ex_forLT hn hp hi.h (fun O' => (hb O').h) hs⟩
theorem src_listW {e : Expr} {t : TE} (hi : Wr (EV Ω n c e t)) : Wr (SRC Ω n c e (rList t)) := ⟨src_list hi.h⟩
theorem src_rangeW {np cp : Pos} {e : Expr} {t : TE} (hi : Wr (EV Ω n c e t)) (hx : c.env.kindOf "range" = some .globalImplicit) (hK : nsIn Ω.K mainGlobals "range" = some none) (hst : starEach [e] c.env = (false, eval e c.env) :: starEach [] c.env := by with_unfolding_all rfl) : Wr (SRC Ω n c (.Call (.Name "range" np) [e] [] cp) (rRange t)) := ⟨src_range hi.h hx hK hst⟩
theorem evt_nilW  : Wr (EVt Ω n c [] bYes) := ⟨evt_nil ⟩
theorem evt_oneW {t : Expr} {T : TB} (h : Wr (TV Ω n c t T)) : Wr (EVt Ω n c [t] T) := ⟨evt_one h.h⟩
theorem ev_compW {elt iter : Expr} {x : Nat} {px : Pos} {ifs : List Expr} {scope : Scope} {cl : List (Str × Addr)} {pos : Pos} {fv : List Nat} {ts : TR} {tt : TB} {te : TE} (S : ScOk c scope cl fv x) (hsrc : Wr (SRC Ω n c iter ts)) (ht : ∀ C O, Wr (EVt Ω n (cctx c scope cl C O) ifs tt)) (he : ∀ C O, Wr (EV Ω n (cctx c scope cl C O) elt te)) (hs : ∀ y, foldedSetIterable iter c.env y = pure y := by intro _; with_unfolding_all rfl) : Wr (EV Ω n c (.ListComp elt [⟨.Name (nm x) px, iter, ifs, 0⟩] scope pos) (tComp x fv ts tt te)) := ⟨ev_comp S hsrc.h (fun C O => (ht C O).h) (fun C O => (he C O).h) hs⟩
theorem ex_assignCompW {elt iter : Expr} {x y : Nat} {px py : Pos} {ifs : List Expr} {scope : Scope} {cl : List (Str × Addr)} {pos spos : Pos} {fv : List Nat} {ts : TR} {tt : TB} {te : TE} (hy : OwnPl c y) (S : ScOk c scope cl fv x) (hsrc : Wr (SRC Ω n c iter ts)) (ht : ∀ C O, Wr (EVt Ω n (cctx c scope cl C O) ifs tt)) (he : ∀ C O, Wr (EV Ω n (cctx c scope cl C O) elt te)) (hsw : swapsWith (.ListComp elt [⟨.Name (nm x) px, iter, ifs, 0⟩] scope pos) (some (.Name (nm y) py)) spos.line c.env = pure true := by with_unfolding_all rfl) (hs : ∀ y, foldedSetIterable iter c.env y = pure y := by intro _; with_unfolding_all rfl) : Wr (EX Ω n c (.Assign [.Name (nm y) py] (.ListComp elt [⟨.Name (nm x) px, iter, ifs, 0⟩] scope pos) spos) (sAssignComp y (tComp x fv ts tt te))) := ⟨ex_assignComp hy S hsrc.h (fun C O => (ht C O).h) (fun C O => (he C O).h) hsw hs⟩
theorem ev_comp2W {elt iter iter₂ : Expr} {x y : Nat} {px py : Pos} {scope : Scope} {cl : List (Str × Addr)} {pos : Pos} {fv : List Nat} {ts ts₂ : TR} {te : TE} (S : ScOk c scope cl fv x) (hpy : ∀ C O, OwnPl (cctx c scope cl C O) y) (hxf : x ∉ fv) (hyf : y ∉ fv) (hxy : y ≠ x) (hsrc : Wr (SRC Ω n c iter ts)) (ht : ∀ C O, Wr (SRC Ω n (cctx c scope cl C O) iter₂ ts₂)) (he : ∀ C O, Wr (EV Ω n (cctx c scope cl C O) elt te)) (hs : ∀ y, foldedSetIterable iter c.env y = pure y := by intro _; with_unfolding_all rfl) (hfs : ∀ C x, foldedSetIterable iter₂ (compEnv scope cl C c.env) x = pure x := by intro _ _; with_unfolding_all rfl) : Wr (EV Ω n c (.ListComp elt [⟨.Name (nm x) px, iter, [], 0⟩, ⟨.Name (nm y) py, iter₂, [], 0⟩] scope pos) (tComp2 x y fv ts ts₂ te)) := ⟨ev_comp2 S hpy hxf hyf hxy hsrc.h (fun C O => (ht C O).h) (fun C O => (he C O).h) hs hfs⟩
theorem tv_plainW {x : Expr} {t : TE} (h : Wr (EV Ω n c x t)) (he : ∀ whole, isTrue x c.env whole = (do let v ← whole; standAt x.pos; holding [v] (truthy v)) := by intro _; with_unfolding_all rfl) : Wr (TV Ω n c x (tTest t)) := ⟨tv_plain h.h he⟩
theorem ev_isBoolW {np bp pos : Pos} {e : Expr} {t : TE} (h : Wr (EV Ω n c e t)) (hx : c.env.kindOf "isinstance" = some .globalImplicit) (hK : nsIn Ω.K mainGlobals "isinstance" = some none) (hx' : c.env.kindOf "bool" = some .globalImplicit) (hK' : nsIn Ω.K mainGlobals "bool" = some none) (hst : starEach [e, .Name "bool" bp] c.env = (false, eval e c.env) :: (false, eval (.Name "bool" bp) c.env) :: starEach [] c.env := by with_unfolding_all rfl) : Wr (EV Ω n c (.Call (.Name "isinstance" np) [e, .Name "bool" bp] [] pos) (tIsBool t)) := ⟨ev_isBool h.h hx hK hx' hK' hst⟩
theorem evp_nilW  : Wr (EVp Ω n c [] [] pNil) := ⟨evp_nil ⟩
theorem evp_consW {k kk : Nat} {kp : Pos} {ks : List (Option Expr)} {v : Expr} {vs : List Expr} {t : TE} {ts : TP} (hk : k < 18) (h : Wr (EV Ω n c v t)) (hs : Wr (EVp Ω n c ks vs ts)) : Wr (EVp Ω n c (some (.Constant (.str (tx k)) kk kp) :: ks) (v :: vs) (pCons k t ts)) := ⟨evp_cons hk h.h hs.h⟩
theorem ev_dictIdxW {keys : List (Option Expr)} {values : List Expr} {dp pos : Pos} {x : Expr} {ts : TP} {ti : TE} (hp : ∀ O', Wr (EVp Ω n (c.withO O') keys values ts)) (hi : Wr (EV Ω n c x ti)) (hall : keys.all (·.isSome) = true := by rfl) (hl : keys.length = values.length := by rfl) (h0 : keys ≠ [] := by intro q; cases q) (hlen : keys.length ≤ 15 := by decide) (hs : ∀ (o v : Value), subscripted x false o v = operate [o, v] (getItem o v) := by intro _ _; with_unfolding_all rfl) : Wr (EV Ω n c (.Subscript (.Dict keys values dp) x pos) (tDictIdx ts ti)) := ⟨ev_dictIdx (fun O' => (hp O').h) hi.h hall hl h0 hlen hs⟩
theorem ex_tryW {body : List Stmt} {h₀ : ExceptHandler} {hs : List ExceptHandler} {pos : Pos} {tb : TS} {cs : List (Nat × Nat)} (hf : c.env = c.fenv) (hbl : ∀ k, k < 2 → c.env.kindOf (Str.ofString (excN k)) = some .globalImplicit ∧ nsIn Ω.K mainGlobals (Str.ofString (excN k)) = some none) (hb : Wr (EXs Ω n c body tb)) (hc : CatchE cs (h₀ :: hs)) (hcs : ∀ p ∈ cs, p.1 < 2) : Wr (EX Ω n c (.Try body (h₀ :: hs) [] [] pos) (sTry tb cs)) := ⟨ex_try hf hbl hb.h hc hcs⟩
theorem ev_toBytesW {o e : Expr} {ap pos p1 p2 kp : Pos} {k1 k2 : Nat} {sg : Bool} {t tl : TE} {pld : Sem Bool} (ho : Wr (EV Ω n c o t)) (hl : Wr (EV Ω n c e tl)) (he : eval (.Call (.Attribute o "to_bytes" ap) [e, .Constant (.str (tx 17)) k1 p1] [⟨some (Str.ofString "signed"), .Constant (.bool sg) k2 p2, kp⟩] pos) c.env = (do
      let ov ← eval o c.env
      standAt ap.atName
      let (f, first) ← holding [ov] (getMethod ov "to_bytes" pld)
      callWith pos f first (backTo pos (starEach [e, .Constant (.str (tx 17)) k1 p1] c.env)) (backToKw pos (keywordEach [⟨some (Str.ofString "signed"), .Constant (.bool sg) k2 p2, kp⟩] c.env))) := by with_unfolding_all rfl) (hst : starEach [e, .Constant (.str (tx 17)) k1 p1] c.env = (false, eval e c.env) :: (false, eval (.Constant (.str (tx 17)) k1 p1) c.env) :: starEach [] c.env := by with_unfolding_all rfl) : Wr (EV Ω n c (.Call (.Attribute o "to_bytes" ap) [e, .Constant (.str (tx 17)) k1 p1] [⟨some (Str.ofString "signed"), .Constant (.bool sg) k2 p2, kp⟩] pos) (tToBytes sg t tl)) := ⟨ev_toBytes ho.h hl.h he hst⟩
theorem ev_fromBytesW {e : Expr} {np ap pos p1 p2 kp : Pos} {k1 k2 : Nat} {sg : Bool} {t : TE} {pld : Sem Bool} (hx : c.env.kindOf "int" = some .globalImplicit) (hK : nsIn Ω.K mainGlobals "int" = some none) (hC : findCls Ω.K (.type "int") (.type "type") (Str.ofString "from_bytes") = some (.get (.builtin "classmethod_descriptor.__get__") (.builtin "int.from_bytes") .none (.type "int"))) (h : Wr (EV Ω n c e t)) (he : eval (.Call (.Attribute (.Name "int" np) "from_bytes" ap) [e, .Constant (.str (tx 17)) k1 p1] [⟨some (Str.ofString "signed"), .Constant (.bool sg) k2 p2, kp⟩] pos) c.env = (do
      let ov ← eval (.Name "int" np) c.env
      standAt ap.atName
      let (f, first) ← holding [ov] (getMethod ov "from_bytes" pld)
      callWith pos f first (backTo pos (starEach [e, .Constant (.str (tx 17)) k1 p1] c.env)) (backToKw pos (keywordEach [⟨some (Str.ofString "signed"), .Constant (.bool sg) k2 p2, kp⟩] c.env))) := by with_unfolding_all rfl) (hst : starEach [e, .Constant (.str (tx 17)) k1 p1] c.env = (false, eval e c.env) :: (false, eval (.Constant (.str (tx 17)) k1 p1) c.env) :: starEach [] c.env := by with_unfolding_all rfl) : Wr (EV Ω n c (.Call (.Attribute (.Name "int" np) "from_bytes" ap) [e, .Constant (.str (tx 17)) k1 p1] [⟨some (Str.ofString "signed"), .Constant (.bool sg) k2 p2, kp⟩] pos) (tFromBytes sg t)) := ⟨ev_fromBytes hx hK hC h.h he hst⟩
theorem exsN_consW {st : Stmt} {rest : List Stmt} {t ts : TS} (h : Wr (EXN Ω n c st t)) (hs : Wr (EXsN Ω n c rest ts)) : Wr (EXsN Ω n c (st :: rest) (sCons t ts)) := ⟨exsN_cons h.h hs.h⟩
theorem exN_ofW {st : Stmt} {T : TS} (h : Wr (EX Ω n c st T)) : Wr (EXN Ω n c st T) := ⟨exN_of h.h⟩
theorem exsN_ofW {st : List Stmt} {T : TS} (h : Wr (EXs Ω n c st T)) : Wr (EXsN Ω n c st T) := ⟨exsN_of h.h⟩
theorem exN_assignW {i : Nat} {np pos : Pos} {x : Expr} {t : TE} (hp : Place c i) (h : Wr (EVN Ω n c x t)) (hs : swapsWith x (some (.Name (nm i) np)) pos.line c.env = pure false := by with_unfolding_all rfl) : Wr (EXN Ω n c (.Assign [.Name (nm i) np] x pos) (sAssign i t)) := ⟨exN_assign hp h.h hs⟩
theorem exN_retW {pos : Pos} {x : Expr} {t : TE} (h : Wr (EVN Ω n c x t)) : Wr (EXN Ω n c (.Return (some x) pos) (sRet t)) := ⟨exN_ret h.h⟩
theorem evN_baW {np pos : Pos} {e : Expr} {t : TE} (h : Wr (EV Ω n c e t)) (hx : c.env.kindOf "bytearray" = some .globalImplicit) (hK : nsIn Ω.K mainGlobals "bytearray" = some none) (he : eval (.Call (.Name "bytearray" np) [e] [] pos) c.env = (do callWith pos (← eval (.Name "bytearray" np) c.env) [] (backTo pos (starEach [e] c.env)) (backToKw pos (keywordEach [] c.env))) := by with_unfolding_all rfl) (hst : starEach [e] c.env = (false, eval e c.env) :: starEach [] c.env := by with_unfolding_all rfl) : Wr (EVN Ω n c (.Call (.Name "bytearray" np) [e] [] pos) (tBa t)) := ⟨evN_ba h.h hx hK he hst⟩
theorem evN_methW {o : Expr} {name : Str} {apos pos : Pos} {e : Expr} {es : List Expr} {t : TE} {ts : TL} {pld : Sem Bool} (ho : Wr (EV Ω n c o t)) (hs : Wr (EVs Ω n c (e :: es) ts)) (he : eval (.Call (.Attribute o name apos) (e :: es) [] pos) c.env = (do
      let ov ← eval o c.env
      standAt apos.atName
      let (f, first) ← holding [ov] (getMethod ov name pld)
      callWith pos f first (backTo pos (starEach (e :: es) c.env)) []) := by with_unfolding_all rfl) (hst : notStar e = true := by rfl) (hpl : (backTo pos (starEach es c.env)).any (·.1) = false := by with_unfolding_all rfl) : Wr (EVN Ω n c (.Call (.Attribute o name apos) (e :: es) [] pos) (tMethN Ω n name t ts)) := ⟨evN_meth ho.h hs.h he (star_cons hst) hpl⟩
theorem exN_forEW {x y : Nat} {es : List Expr} {kk : Nat} {px np cp pos : Pos} {e : Expr} {body : List Stmt} {t : TE} {tb : TS} (hn : NmE [x, y] es) (hp : ∀ i ∈ [x, y], Place c i) (hi : Wr (EV Ω n c e t)) (hb : ∀ O', Wr (EXsN Ω n (c.withO O') body tb)) (hx : c.env.kindOf "enumerate" = some .globalImplicit) (hK : nsIn Ω.K mainGlobals "enumerate" = some none) (hs : ∀ y, foldedSetIterable (.Call (.Name "enumerate" np) [e] [] cp) c.env y = pure y := by intro _; with_unfolding_all rfl) (hst : starEach [e] c.env = (false, eval e c.env) :: starEach [] c.env := by with_unfolding_all rfl) : Wr (EXN Ω n c (.For (.Tuple es kk px) (.Call (.Name "enumerate" np) [e] [] cp) body [] pos) (sForE x y t tb)) := ⟨exN_forE hn hp hi.h (fun O' => (hb O').h) hx hK hs hst⟩
end
end Mine
end
section
open PySem PySem.W PyProof.Rows PySem.Calls
set_option Elab.async false
set_option linter.all false
set_option autoImplicit false
set_option maxRecDepth 100000
namespace Mine
section
variable {Ω : Wd} (hΩ : Ω.K = K0 Ω.w.params)
include hΩ
noncomputable def T312  : TS :=
  (sCons (sRet (tBin dSub (tBin dMod (tBin dAddI (tVar 6) (tBin dPow (tLit (.int 2)) (tLit (.int 70)))) (tBin dPow (tLit (.int 2)) (tLit (.int 71)))) (tBin dPow (tLit (.int 2)) (tLit (.int 70)))))
  sNil)
set_option maxHeartbeats 600000 in
theorem dv312 {n : Nat}  (L : Addr) (outer : List Env) (O : Addr → Prop) : Wr (EXs Ω n (fctx fd312 312 L outer O) (bodyOf fd312) (T312 )) :=
  (exs_consW (ex_retW (ev_binW op_sub (ev_binW op_mod (ev_binW op_addI (ev_varW 6 _) (ev_binW op_pow (ev_intW _ _ _) (ev_intW _ _ _))) (ev_binW op_pow (ev_intW _ _ _) (ev_intW _ _ _))) (ev_binW op_pow (ev_intW _ _ _) (ev_intW _ _ _))))
  exs_nilW)
noncomputable def T317  : TS :=
  (sCons (sRet (tComp 9 [6] (rRange (tLit (.int 9))) bYes (tBin dMod (tBin dFdiv (tVar 6) (tBin dPow (tLit (.int 256)) (tVar 9))) (tLit (.int 256)))))
  sNil)
set_option maxHeartbeats 600000 in
theorem dv317 {n : Nat}  (L : Addr) (outer : List Env) (O : Addr → Prop) : Wr (EXs Ω n (fctx fd317 317 L outer O) (bodyOf fd317) (T317 )) :=
  (exs_consW (ex_retW (ev_compW ⟨by with_unfolding_all rfl, by with_unfolding_all rfl, by with_unfolding_all rfl, by with_unfolding_all rfl, (fvOk_cons (by with_unfolding_all rfl) (fun C => ⟨by with_unfolding_all rfl, by with_unfolding_all rfl⟩) fvOk_nil), fun C O => ⟨by decide, .inl (by with_unfolding_all rfl)⟩, by with_unfolding_all rfl⟩ (src_rangeW (ev_intW _ _ _) (by with_unfolding_all rfl) (kb_range hΩ)) (fun C O => evt_nilW) (fun C O => (ev_binW op_mod (ev_binW op_fdiv (ev_varW 6 _) (ev_binW op_pow (ev_intW _ _ _) (ev_varW 9 _))) (ev_intW _ _ _)))))
  exs_nilW)
noncomputable def B324  : TS :=
  (sCons (sAssign 8 (tBin dAddI (tBin dMulI (tLit (.int 256)) (tVar 8)) (tBin dIdx (tVar 7) (tBin dSub (tLit (.int 8)) (tVar 9)))))
  sNil)
noncomputable def T324  : TS :=
  (sCons (sAssign 8 (tIte (tTest (tBin dGe (tBin dIdx (tVar 7) (tLit (.int 8))) (tLit (.int 128)))) (tNeg (tLit (.int 1))) (tLit (.int 0))))
  (sCons (sForR 9 (tLit (.int 9)) B324)
  (sCons (sRet (tVar 8))
  sNil)))
set_option maxHeartbeats 600000 in
theorem dv324 {n : Nat}  (L : Addr) (outer : List Env) (O : Addr → Prop) : Wr (EXs Ω n (fctx fd324 324 L outer O) (bodyOf fd324) (T324 )) :=
  (exs_consW (ex_assignW ⟨by decide, .inl (by with_unfolding_all rfl)⟩ (ev_iteW (tv_cmpW op_ge (ev_idxW (ev_varW 7 _) (ev_intW _ _ _)) (ev_intW _ _ _)) (ev_negW (ev_intW _ _ _)) (ev_intW _ _ _)))
  (exs_consW (ex_forRW ⟨by decide, .inl (by with_unfolding_all rfl)⟩ (ev_intW _ _ _) (fun O' => (exs_consW (ex_assignW ⟨by decide, .inl (by with_unfolding_all rfl)⟩ (ev_binW op_addI (ev_binW op_mulI (ev_intW _ _ _) (ev_varW 8 _)) (ev_idxW (ev_varW 7 _) (ev_binW op_sub (ev_intW _ _ _) (ev_varW 9 _)))))
  exs_nilW)) (by with_unfolding_all rfl) (kb_range hΩ))
  (exs_consW (ex_retW (ev_varW 8 _))
  exs_nilW)))
noncomputable def T298  : TS :=
  (sCons (sRet (tList (lCons (tTup (lCons (tLit (.ref 275)) (lCons (tLit (.int 1)) (lCons (tLit (.bool true)) lNil)))) (lCons (tTup (lCons (tLit (.ref 278)) (lCons (tLit (.int 1)) (lCons (tLit (.bool false)) lNil)))) (lCons (tTup (lCons (tLit (.ref 281)) (lCons (tLit (.int 2)) (lCons (tLit (.bool true)) lNil)))) (lCons (tTup (lCons (tLit (.ref 284)) (lCons (tLit (.int 2)) (lCons (tLit (.bool false)) lNil)))) (lCons (tTup (lCons (tLit (.ref 287)) (lCons (tLit (.int 8)) (lCons (tLit (.bool true)) lNil)))) (lCons (tTup (lCons (tLit (.ref 290)) (lCons (tLit (.int 8)) (lCons (tLit (.bool false)) lNil)))) lNil))))))))
  sNil)
set_option maxHeartbeats 600000 in
theorem dv298 {n : Nat}  (L : Addr) (outer : List Env) (O : Addr → Prop) : Wr (EXs Ω n (fctx fd298 298 L outer O) (bodyOf fd298) (T298 )) :=
  (exs_consW (ex_retW (ev_listW (evs_consW (ev_tupW (evs_consW (ev_topW (by with_unfolding_all rfl) (kg_i8 hΩ) (by decide +kernel)) (evs_consW (ev_intW _ _ _) (evs_consW (ev_boolW _ _ _) evs_nilW)))) (evs_consW (ev_tupW (evs_consW (ev_topW (by with_unfolding_all rfl) (kg_u8 hΩ) (by decide +kernel)) (evs_consW (ev_intW _ _ _) (evs_consW (ev_boolW _ _ _) evs_nilW)))) (evs_consW (ev_tupW (evs_consW (ev_topW (by with_unfolding_all rfl) (kg_i16 hΩ) (by decide +kernel)) (evs_consW (ev_intW _ _ _) (evs_consW (ev_boolW _ _ _) evs_nilW)))) (evs_consW (ev_tupW (evs_consW (ev_topW (by with_unfolding_all rfl) (kg_u16 hΩ) (by decide +kernel)) (evs_consW (ev_intW _ _ _) (evs_consW (ev_boolW _ _ _) evs_nilW)))) (evs_consW (ev_tupW (evs_consW (ev_topW (by with_unfolding_all rfl) (kg_i64 hΩ) (by decide +kernel)) (evs_consW (ev_intW _ _ _) (evs_consW (ev_boolW _ _ _) evs_nilW)))) (evs_consW (ev_tupW (evs_consW (ev_topW (by with_unfolding_all rfl) (kg_u64 hΩ) (by decide +kernel)) (evs_consW (ev_intW _ _ _) (evs_consW (ev_boolW _ _ _) evs_nilW)))) evs_nilW))))))))
  exs_nilW)
noncomputable def T305  : TS :=
  (sCons (sRet (tList (lCons (tLit (.str 0)) (lCons (tLit (.str 1)) (lCons (tLit (.str 2)) (lCons (tLit (.str 3)) (lCons (tLit (.str 4)) (lCons (tLit (.str 5)) (lCons (tLit (.str 6)) (lCons (tLit (.str 7)) (lCons (tLit (.str 8)) (lCons (tLit (.str 9)) (lCons (tLit (.str 10)) (lCons (tLit (.str 11)) (lCons (tLit (.str 12)) (lCons (tLit (.str 13)) (lCons (tLit (.str 14)) lNil)))))))))))))))))
  sNil)
set_option maxHeartbeats 600000 in
theorem dv305 {n : Nat}  (L : Addr) (outer : List Env) (O : Addr → Prop) : Wr (EXs Ω n (fctx fd305 305 L outer O) (bodyOf fd305) (T305 )) :=
  (exs_consW (ex_retW (ev_listW (evs_consW (ev_strW 0 (by decide) _ _) (evs_consW (ev_strW 1 (by decide) _ _) (evs_consW (ev_strW 2 (by decide) _ _) (evs_consW (ev_strW 3 (by decide) _ _) (evs_consW (ev_strW 4 (by decide) _ _) (evs_consW (ev_strW 5 (by decide) _ _) (evs_consW (ev_strW 6 (by decide) _ _) (evs_consW (ev_strW 7 (by decide) _ _) (evs_consW (ev_strW 8 (by decide) _ _) (evs_consW (ev_strW 9 (by decide) _ _) (evs_consW (ev_strW 10 (by decide) _ _) (evs_consW (ev_strW 11 (by decide) _ _) (evs_consW (ev_strW 12 (by decide) _ _) (evs_consW (ev_strW 13 (by decide) _ _) (evs_consW (ev_strW 14 (by decide) _ _) evs_nilW)))))))))))))))))
  exs_nilW)
noncomputable def T331  : TS :=
  (sCons (sRet (tBin dAddL (tSlice (tVar 7) oNone (oSome (tVar 10))) (tBin dMulL (tList (lCons (tIte (tAnd (tTest (tVar 11)) (tTest (tBin dGe (tBin dIdx (tVar 7) (tBin dSub (tVar 10) (tLit (.int 1)))) (tLit (.int 128))))) (tLit (.int 255)) (tLit (.int 0))) lNil)) (tBin dSub (tLit (.int 9)) (tVar 10)))))
  sNil)
set_option maxHeartbeats 600000 in
theorem dv331 {n : Nat}  (L : Addr) (outer : List Env) (O : Addr → Prop) : Wr (EXs Ω n (fctx fd331 331 L outer O) (bodyOf fd331) (T331 )) :=
  (exs_consW (ex_retW (ev_binW op_addL (ev_sliceW (ev_varW 7 _) evo_noneW (evo_someW (ev_varW 10 _))) (ev_binW op_mulL (ev_listW (evs_consW (ev_iteW (tv_andW (tv_nameW (ev_varW 11 _)) (tv_cmpW op_ge (ev_idxW (ev_varW 7 _) (ev_binW op_sub (ev_varW 10 _) (ev_intW _ _ _))) (ev_intW _ _ _))) (ev_intW _ _ _) (ev_intW _ _ _)) evs_nilW)) (ev_binW op_sub (ev_intW _ _ _) (ev_varW 10 _)))))
  exs_nilW)
noncomputable def T338 (τ331 : FT) : TS :=
  (sCons (sIf (tTest (tBin dEq (tCall τ331 (lCons (tVar 7) (lCons (tVar 10) (lCons (tVar 11) lNil)))) (tVar 7)))
    (sCons (sRet (tVar 7))
  sNil)
    sNil)
  (sCons (sIf (tTest (tBin dGe (tBin dIdx (tVar 7) (tLit (.int 8))) (tLit (.int 128))))
    (sCons (sRet (tCall τ331 (lCons (tBin dAddL (tBin dMulL (tList (lCons (tLit (.int 0)) lNil)) (tBin dSub (tVar 10) (tLit (.int 1)))) (tList (lCons (tIte (tTest (tVar 11)) (tLit (.int 128)) (tLit (.int 0))) lNil))) (lCons (tVar 10) (lCons (tVar 11) lNil)))))
  sNil)
    sNil)
  (sCons (sRet (tCall τ331 (lCons (tBin dAddL (tBin dMulL (tList (lCons (tLit (.int 255)) lNil)) (tBin dSub (tVar 10) (tLit (.int 1)))) (tList (lCons (tIte (tTest (tVar 11)) (tLit (.int 127)) (tLit (.int 255))) lNil))) (lCons (tVar 10) (lCons (tVar 11) lNil)))))
  sNil)))
set_option maxHeartbeats 600000 in
theorem dv338 {n : Nat} {τ331 : FT} (h331 : Spec Ω n (.ref 331) τ331) (L : Addr) (outer : List Env) (O : Addr → Prop) : Wr (EXs Ω n (fctx fd338 338 L outer O) (bodyOf fd338) (T338 τ331)) :=
  (exs_consW (ex_ifW (tv_cmpW op_eq (ev_callW rfl (by with_unfolding_all rfl) (kg_law_grown hΩ) (by decide +kernel) (kk_law_grown hΩ) h331 (evs_consW (ev_varW 7 _) (evs_consW (ev_varW 10 _) (evs_consW (ev_varW 11 _) evs_nilW)))) (ev_varW 7 _))
    (exs_consW (ex_retW (ev_varW 7 _))
  exs_nilW)
    exs_nilW)
  (exs_consW (ex_ifW (tv_cmpW op_ge (ev_idxW (ev_varW 7 _) (ev_intW _ _ _)) (ev_intW _ _ _))
    (exs_consW (ex_retW (ev_callW rfl (by with_unfolding_all rfl) (kg_law_grown hΩ) (by decide +kernel) (kk_law_grown hΩ) h331 (evs_consW (ev_binW op_addL (ev_binW op_mulL (ev_listW (evs_consW (ev_intW _ _ _) evs_nilW)) (ev_binW op_sub (ev_varW 10 _) (ev_intW _ _ _))) (ev_listW (evs_consW (ev_iteW (tv_nameW (ev_varW 11 _)) (ev_intW _ _ _) (ev_intW _ _ _)) evs_nilW))) (evs_consW (ev_varW 10 _) (evs_consW (ev_varW 11 _) evs_nilW)))))
  exs_nilW)
    exs_nilW)
  (exs_consW (ex_retW (ev_callW rfl (by with_unfolding_all rfl) (kg_law_grown hΩ) (by decide +kernel) (kk_law_grown hΩ) h331 (evs_consW (ev_binW op_addL (ev_binW op_mulL (ev_listW (evs_consW (ev_intW _ _ _) evs_nilW)) (ev_binW op_sub (ev_varW 10 _) (ev_intW _ _ _))) (ev_listW (evs_consW (ev_iteW (tv_nameW (ev_varW 11 _)) (ev_intW _ _ _) (ev_intW _ _ _)) evs_nilW))) (evs_consW (ev_varW 10 _) (evs_consW (ev_varW 11 _) evs_nilW)))))
  exs_nilW)))
noncomputable def B345  : TS :=
  (sCons (sAssign 13 (tBin dAddI (tBin dAddI (tVar 13) (tBin dIdx (tVar 7) (tVar 9))) (tBin dIdx (tVar 12) (tVar 9))))
  (sCons (sAppend 14 (tBin dMod (tVar 13) (tLit (.int 256))))
  (sCons (sAssign 13 (tBin dFdiv (tVar 13) (tLit (.int 256))))
  sNil)))
noncomputable def T345  : TS :=
  (sCons (sOwn [14] 14 lNil)
  (sCons (sForR 9 (tLit (.int 9)) B345)
  (sCons (sRetOwn 14)
  sNil)))
set_option maxHeartbeats 600000 in
theorem dv345 {n : Nat}  (L : Addr) (outer : List Env) (O : Addr → Prop) : Wr (EXs Ω n (fctx fd345 345 L outer O) (bodyOf fd345) (T345 )) :=
  (exs_consW (ex_ownW [14] ⟨by decide, by with_unfolding_all rfl⟩ (allC (by with_unfolding_all rfl) allN) evs_nilW)
  (exs_consW (ex_forRW ⟨by decide, .inl (by with_unfolding_all rfl)⟩ (ev_intW _ _ _) (fun O' => (exs_consW (ex_assignW ⟨by decide, .inl (by with_unfolding_all rfl)⟩ (ev_binW op_addI (ev_binW op_addI (ev_varW 13 _) (ev_idxW (ev_varW 7 _) (ev_varW 9 _))) (ev_idxW (ev_varW 12 _) (ev_varW 9 _))))
  (exs_consW (ex_appendW ⟨by decide, by with_unfolding_all rfl⟩ (ev_binW op_mod (ev_varW 13 _) (ev_intW _ _ _)))
  (exs_consW (ex_assignW ⟨by decide, .inl (by with_unfolding_all rfl)⟩ (ev_binW op_fdiv (ev_varW 13 _) (ev_intW _ _ _)))
  exs_nilW)))) (by with_unfolding_all rfl) (kb_range hΩ))
  (exs_consW (ex_retOwnW ⟨by decide, by with_unfolding_all rfl⟩)
  exs_nilW)))
noncomputable def T350 (τ345 : FT) : TS :=
  (sCons (sRet (tCall τ345 (lCons (tBin dMulL (tList (lCons (tLit (.int 0)) lNil)) (tLit (.int 9))) (lCons (tComp 15 [] (rList (tVar 7)) bYes (tBin dSub (tLit (.int 255)) (tVar 15))) (lCons (tLit (.int 1)) lNil)))))
  sNil)
set_option maxHeartbeats 600000 in
theorem dv350 {n : Nat} {τ345 : FT} (h345 : Spec Ω n (.ref 345) τ345) (L : Addr) (outer : List Env) (O : Addr → Prop) : Wr (EXs Ω n (fctx fd350 350 L outer O) (bodyOf fd350) (T350 τ345)) :=
  (exs_consW (ex_retW (ev_callW rfl (by with_unfolding_all rfl) (kg_law_sum hΩ) (by decide +kernel) (kk_law_sum hΩ) h345 (evs_consW (ev_binW op_mulL (ev_listW (evs_consW (ev_intW _ _ _) evs_nilW)) (ev_intW _ _ _)) (evs_consW (ev_compW ⟨by with_unfolding_all rfl, by with_unfolding_all rfl, by with_unfolding_all rfl, by with_unfolding_all rfl, fvOk_nil, fun C O => ⟨by decide, .inl (by with_unfolding_all rfl)⟩, by with_unfolding_all rfl⟩ (src_listW (ev_varW 7 _)) (fun C O => evt_nilW) (fun C O => (ev_binW op_sub (ev_intW _ _ _) (ev_varW 15 _)))) (evs_consW (ev_intW _ _ _) evs_nilW)))))
  exs_nilW)
noncomputable def B355  : TS :=
  (sCons (sAssign 13 (tBin dAddI (tVar 13) (tCall fSum (lCons (tComp 16 [7, 12, 9] (rRange (tBin dAddI (tVar 9) (tLit (.int 1)))) bYes (tBin dMulI (tBin dIdx (tVar 7) (tVar 16)) (tBin dIdx (tVar 12) (tBin dSub (tVar 9) (tVar 16))))) lNil))))
  (sCons (sAppend 14 (tBin dMod (tVar 13) (tLit (.int 256))))
  (sCons (sAssign 13 (tBin dFdiv (tVar 13) (tLit (.int 256))))
  sNil)))
noncomputable def T355  : TS :=
  (sCons (sOwn [14] 14 lNil)
  (sCons (sAssign 13 (tLit (.int 0)))
  (sCons (sForR 9 (tVar 10) B355)
  (sCons (sRetOwn 14)
  sNil))))
set_option maxHeartbeats 600000 in
theorem dv355 {n : Nat}  (L : Addr) (outer : List Env) (O : Addr → Prop) : Wr (EXs Ω n (fctx fd355 355 L outer O) (bodyOf fd355) (T355 )) :=
  (exs_consW (ex_ownW [14] ⟨by decide, by with_unfolding_all rfl⟩ (allC (by with_unfolding_all rfl) allN) evs_nilW)
  (exs_consW (ex_assignW ⟨by decide, .inl (by with_unfolding_all rfl)⟩ (ev_intW _ _ _))
  (exs_consW (ex_forRW ⟨by decide, .inr ⟨by with_unfolding_all rfl, by with_unfolding_all rfl⟩⟩ (ev_varW 10 _) (fun O' => (exs_consW (ex_assignW ⟨by decide, .inl (by with_unfolding_all rfl)⟩ (ev_binW op_addI (ev_varW 13 _) (ev_bcallW (by with_unfolding_all rfl) (kb_sum hΩ) (by decide +kernel) (by decide +kernel) (by decide +kernel) b_sum (evs_consW (ev_compW ⟨by with_unfolding_all rfl, by with_unfolding_all rfl, by with_unfolding_all rfl, by with_unfolding_all rfl, (fvOk_cons (by with_unfolding_all rfl) (fun C => ⟨by with_unfolding_all rfl, by with_unfolding_all rfl⟩) (fvOk_cons (by with_unfolding_all rfl) (fun C => ⟨by with_unfolding_all rfl, by with_unfolding_all rfl⟩) (fvOk_cons (by with_unfolding_all rfl) (fun C => ⟨by with_unfolding_all rfl, by with_unfolding_all rfl⟩) fvOk_nil))), fun C O => ⟨by decide, .inl (by with_unfolding_all rfl)⟩, by with_unfolding_all rfl⟩ (src_rangeW (ev_binW op_addI (ev_varW 9 _) (ev_intW _ _ _)) (by with_unfolding_all rfl) (kb_range hΩ)) (fun C O => evt_nilW) (fun C O => (ev_binW op_mulI (ev_idxW (ev_varW 7 _) (ev_varW 16 _)) (ev_idxW (ev_varW 12 _) (ev_binW op_sub (ev_varW 9 _) (ev_varW 16 _)))))) evs_nilW))))
  (exs_consW (ex_appendW ⟨by decide, by with_unfolding_all rfl⟩ (ev_binW op_mod (ev_varW 13 _) (ev_intW _ _ _)))
  (exs_consW (ex_assignW ⟨by decide, .inl (by with_unfolding_all rfl)⟩ (ev_binW op_fdiv (ev_varW 13 _) (ev_intW _ _ _)))
  exs_nilW)))) (by with_unfolding_all rfl) (kb_range hΩ))
  (exs_consW (ex_retOwnW ⟨by decide, by with_unfolding_all rfl⟩)
  exs_nilW))))
noncomputable def B362 (τ317 : FT) (τ324 : FT) : TS :=
  (sCons (sAssign 18 (tBin dAddI (tBin dMulI (tLit (.int 256)) (tVar 18)) (tBin dIdx (tVar 7) (tBin dSub (tBin dSub (tVar 10) (tLit (.int 1))) (tVar 9)))))
  (sCons (sAssign 19 (tBin dAddL (tList (lCons (tBin dFdiv (tVar 18) (tVar 17)) lNil)) (tVar 19)))
  (sCons (sAssign 18 (tBin dMod (tVar 18) (tVar 17)))
  sNil)))
noncomputable def T362 (τ317 : FT) (τ324 : FT) : TS :=
  (sCons (sAssign 17 (tCall τ324 (lCons (tVar 12) lNil)))
  (sCons (sAssign 18 (tLit (.int 0)))
  (sCons (sAssign 19 (tBin dMulL (tList (lCons (tLit (.int 0)) lNil)) (tBin dSub (tLit (.int 9)) (tVar 10))))
  (sCons (sForR 9 (tVar 10) (B362 τ317 τ324))
  (sCons (sRet (tTup (lCons (tVar 19) (lCons (tCall τ317 (lCons (tVar 18) lNil)) lNil))))
  sNil)))))
set_option maxHeartbeats 600000 in
theorem dv362 {n : Nat} {τ317 : FT} (h317 : Spec Ω n (.ref 317) τ317) {τ324 : FT} (h324 : Spec Ω n (.ref 324) τ324) (L : Addr) (outer : List Env) (O : Addr → Prop) : Wr (EXs Ω n (fctx fd362 362 L outer O) (bodyOf fd362) (T362 τ317 τ324)) :=
  (exs_consW (ex_assignW ⟨by decide, .inl (by with_unfolding_all rfl)⟩ (ev_callW rfl (by with_unfolding_all rfl) (kg_law_number hΩ) (by decide +kernel) (kk_law_number hΩ) h324 (evs_consW (ev_varW 12 _) evs_nilW)))
  (exs_consW (ex_assignW ⟨by decide, .inl (by with_unfolding_all rfl)⟩ (ev_intW _ _ _))
  (exs_consW (ex_assignW ⟨by decide, .inl (by with_unfolding_all rfl)⟩ (ev_binW op_mulL (ev_listW (evs_consW (ev_intW _ _ _) evs_nilW)) (ev_binW op_sub (ev_intW _ _ _) (ev_varW 10 _))))
  (exs_consW (ex_forRW ⟨by decide, .inl (by with_unfolding_all rfl)⟩ (ev_varW 10 _) (fun O' => (exs_consW (ex_assignW ⟨by decide, .inl (by with_unfolding_all rfl)⟩ (ev_binW op_addI (ev_binW op_mulI (ev_intW _ _ _) (ev_varW 18 _)) (ev_idxW (ev_varW 7 _) (ev_binW op_sub (ev_binW op_sub (ev_varW 10 _) (ev_intW _ _ _)) (ev_varW 9 _)))))
  (exs_consW (ex_assignW ⟨by decide, .inl (by with_unfolding_all rfl)⟩ (ev_binW op_addL (ev_listW (evs_consW (ev_binW op_fdiv (ev_varW 18 _) (ev_varW 17 _)) evs_nilW)) (ev_varW 19 _)))
  (exs_consW (ex_assignW ⟨by decide, .inl (by with_unfolding_all rfl)⟩ (ev_binW op_mod (ev_varW 18 _) (ev_varW 17 _)))
  exs_nilW)))) (by with_unfolding_all rfl) (kb_range hΩ))
  (exs_consW (ex_retW (ev_tupW (evs_consW (ev_varW 19 _) (evs_consW (ev_callW rfl (by with_unfolding_all rfl) (kg_law_row hΩ) (by decide +kernel) (kk_law_row hΩ) h317 (evs_consW (ev_varW 18 _) evs_nilW)) evs_nilW))))
  exs_nilW)))))
noncomputable def T367  : TS :=
  (sCons (sRet (tComp 9 [20] (rRange (tVar 10)) bYes (tCall fSum (lCons (tComp 16 [20, 9] (rRange (tLit (.int 8))) bYes (tBin dMulI (tBin dIdx (tVar 20) (tBin dAddI (tBin dMulI (tLit (.int 8)) (tVar 9)) (tVar 16))) (tBin dPow (tLit (.int 2)) (tVar 16)))) lNil))))
  sNil)
set_option maxHeartbeats 600000 in
theorem dv367 {n : Nat}  (L : Addr) (outer : List Env) (O : Addr → Prop) : Wr (EXs Ω n (fctx fd367 367 L outer O) (bodyOf fd367) (T367 )) :=
  (exs_consW (ex_retW (ev_compW ⟨by with_unfolding_all rfl, by with_unfolding_all rfl, by with_unfolding_all rfl, by with_unfolding_all rfl, (fvOk_cons (by with_unfolding_all rfl) (fun C => ⟨by with_unfolding_all rfl, by with_unfolding_all rfl⟩) fvOk_nil), fun C O => ⟨by decide, .inr ⟨by with_unfolding_all rfl, by with_unfolding_all rfl⟩⟩, by with_unfolding_all rfl⟩ (src_rangeW (ev_varW 10 _) (by with_unfolding_all rfl) (kb_range hΩ)) (fun C O => evt_nilW) (fun C O => (ev_bcallW (by with_unfolding_all rfl) (kb_sum hΩ) (by decide +kernel) (by decide +kernel) (by decide +kernel) b_sum (evs_consW (ev_compW ⟨by with_unfolding_all rfl, by with_unfolding_all rfl, by with_unfolding_all rfl, by with_unfolding_all rfl, (fvOk_cons (by with_unfolding_all rfl) (fun C => ⟨by with_unfolding_all rfl, by with_unfolding_all rfl⟩) (fvOk_cons (by with_unfolding_all rfl) (fun C => ⟨by with_unfolding_all rfl, by with_unfolding_all rfl⟩) fvOk_nil)), fun C O => ⟨by decide, .inl (by with_unfolding_all rfl)⟩, by with_unfolding_all rfl⟩ (src_rangeW (ev_intW _ _ _) (by with_unfolding_all rfl) (kb_range hΩ)) (fun C O => evt_nilW) (fun C O => (ev_binW op_mulI (ev_idxW (ev_varW 20 _) (ev_binW op_addI (ev_binW op_mulI (ev_intW _ _ _) (ev_varW 9 _)) (ev_varW 16 _))) (ev_binW op_pow (ev_intW _ _ _) (ev_varW 16 _))))) evs_nilW)))))
  exs_nilW)
noncomputable def T374 (τ331 : FT) (τ350 : FT) (τ362 : FT) : TS :=
  (sCons (sIf (tTest (tBin dEq (tVar 23) (tBin dMulL (tList (lCons (tLit (.int 0)) lNil)) (tLit (.int 9)))))
    (sCons (sRet (tLit (.str 15)))
  sNil)
    sNil)
  (sCons (sAssignTup [19, 18] (tCall τ362 (lCons (tIte (tTest (tBin dGe (tBin dIdx (tVar 22) (tLit (.int 8))) (tLit (.int 128)))) (tCall τ350 (lCons (tVar 22) lNil)) (tVar 22)) (lCons (tIte (tTest (tBin dGe (tBin dIdx (tVar 23) (tLit (.int 8))) (tLit (.int 128)))) (tCall τ350 (lCons (tVar 23) lNil)) (tVar 23)) (lCons (tVar 10) lNil)))))
  (sCons (sIf (tTest (tBin dEq (tVar 21) (tLit (.str 6))))
    (sCons (sRet (tIte (tTest (tBin dGe (tBin dIdx (tVar 22) (tLit (.int 8))) (tLit (.int 128)))) (tCall τ350 (lCons (tVar 18) lNil)) (tVar 18)))
  sNil)
    sNil)
  (sCons (sIf (tTest (tBin dNe (tBin dGe (tBin dIdx (tVar 22) (tLit (.int 8))) (tLit (.int 128))) (tBin dGe (tBin dIdx (tVar 23) (tLit (.int 8))) (tLit (.int 128)))))
    (sCons (sAssign 19 (tCall τ350 (lCons (tVar 19) lNil)))
  sNil)
    sNil)
  (sCons (sRet (tIte (tTest (tBin dEq (tCall τ331 (lCons (tVar 19) (lCons (tVar 10) (lCons (tVar 11) lNil)))) (tVar 19))) (tVar 19) (tLit (.str 16))))
  sNil)))))
set_option maxHeartbeats 600000 in
theorem dv374 {n : Nat} {τ331 : FT} (h331 : Spec Ω n (.ref 331) τ331) {τ350 : FT} (h350 : Spec Ω n (.ref 350) τ350) {τ362 : FT} (h362 : Spec Ω n (.ref 362) τ362) (L : Addr) (outer : List Env) (O : Addr → Prop) : Wr (EXs Ω n (fctx fd374 374 L outer O) (bodyOf fd374) (T374 τ331 τ350 τ362)) :=
  (exs_consW (ex_ifW (tv_cmpW op_eq (ev_varW 23 _) (ev_binW op_mulL (ev_listW (evs_consW (ev_intW _ _ _) evs_nilW)) (ev_intW _ _ _)))
    (exs_consW (ex_retW (ev_strW 15 (by decide) _ _))
  exs_nilW)
    exs_nilW)
  (exs_consW (ex_assignTupW (is := [19, 18]) (.cons 19 (.cons 18 .nil)) (allC ⟨by decide, .inl (by with_unfolding_all rfl)⟩ (allC ⟨by decide, .inl (by with_unfolding_all rfl)⟩ allN)) (ev_callW rfl (by with_unfolding_all rfl) (kg_law_divided hΩ) (by decide +kernel) (kk_law_divided hΩ) h362 (evs_consW (ev_iteW (tv_cmpW op_ge (ev_idxW (ev_varW 22 _) (ev_intW _ _ _)) (ev_intW _ _ _)) (ev_callW rfl (by with_unfolding_all rfl) (kg_law_minus hΩ) (by decide +kernel) (kk_law_minus hΩ) h350 (evs_consW (ev_varW 22 _) evs_nilW)) (ev_varW 22 _)) (evs_consW (ev_iteW (tv_cmpW op_ge (ev_idxW (ev_varW 23 _) (ev_intW _ _ _)) (ev_intW _ _ _)) (ev_callW rfl (by with_unfolding_all rfl) (kg_law_minus hΩ) (by decide +kernel) (kk_law_minus hΩ) h350 (evs_consW (ev_varW 23 _) evs_nilW)) (ev_varW 23 _)) (evs_consW (ev_varW 10 _) evs_nilW)))))
  (exs_consW (ex_ifW (tv_cmpW op_eq (ev_varW 21 _) (ev_strW 6 (by decide) _ _))
    (exs_consW (ex_retW (ev_iteW (tv_cmpW op_ge (ev_idxW (ev_varW 22 _) (ev_intW _ _ _)) (ev_intW _ _ _)) (ev_callW rfl (by with_unfolding_all rfl) (kg_law_minus hΩ) (by decide +kernel) (kk_law_minus hΩ) h350 (evs_consW (ev_varW 18 _) evs_nilW)) (ev_varW 18 _)))
  exs_nilW)
    exs_nilW)
  (exs_consW (ex_ifW (tv_cmpW op_ne (ev_cmpW op_ge (ev_idxW (ev_varW 22 _) (ev_intW _ _ _)) (ev_intW _ _ _)) (ev_cmpW op_ge (ev_idxW (ev_varW 23 _) (ev_intW _ _ _)) (ev_intW _ _ _)))
    (exs_consW (ex_assignW ⟨by decide, .inl (by with_unfolding_all rfl)⟩ (ev_callW rfl (by with_unfolding_all rfl) (kg_law_minus hΩ) (by decide +kernel) (kk_law_minus hΩ) h350 (evs_consW (ev_varW 19 _) evs_nilW)))
  exs_nilW)
    exs_nilW)
  (exs_consW (ex_retW (ev_iteW (tv_cmpW op_eq (ev_callW rfl (by with_unfolding_all rfl) (kg_law_grown hΩ) (by decide +kernel) (kk_law_grown hΩ) h331 (evs_consW (ev_varW 19 _) (evs_consW (ev_varW 10 _) (evs_consW (ev_varW 11 _) evs_nilW)))) (ev_varW 19 _)) (ev_varW 19 _) (ev_strW 16 (by decide) _ _)))
  exs_nilW)))))
end
end Mine
end
section
open PySem PySem.W PyProof.Rows PySem.Calls
set_option Elab.async false
set_option linter.all false
set_option autoImplicit false
set_option maxRecDepth 100000
namespace Mine
section
variable {Ω : Wd} (hΩ : Ω.K = K0 Ω.w.params)
include hΩ
noncomputable def T379 (τ331 : FT) (τ367 : FT) (τ317 : FT) (τ374 : FT) (τ355 : FT) (τ338 : FT) (τ345 : FT) (τ350 : FT) : TS :=
  (sCons (sIf (tTest (tBin dEq (tVar 21) (tLit (.str 9))))
    (sCons (sRet (tCall τ338 (lCons (tVar 22) (lCons (tVar 10) (lCons (tVar 11) lNil)))))
  sNil)
    sNil)
  (sCons (sIf (tTest (tBin dEq (tVar 21) (tLit (.str 0))))
    (sCons (sRet (tCall τ331 (lCons (tCall τ345 (lCons (tVar 22) (lCons (tVar 23) (lCons (tLit (.int 0)) lNil)))) (lCons (tVar 10) (lCons (tVar 11) lNil)))))
  sNil)
    sNil)
  (sCons (sIf (tTest (tBin dEq (tVar 21) (tLit (.str 1))))
    (sCons (sRet (tCall τ331 (lCons (tCall τ345 (lCons (tVar 22) (lCons (tCall τ350 (lCons (tVar 23) lNil)) (lCons (tLit (.int 0)) lNil)))) (lCons (tVar 10) (lCons (tVar 11) lNil)))))
  sNil)
    sNil)
  (sCons (sIf (tTest (tBin dEq (tVar 21) (tLit (.str 3))))
    (sCons (sRet (tCall τ338 (lCons (tCall τ345 (lCons (tVar 22) (lCons (tVar 23) (lCons (tLit (.int 0)) lNil)))) (lCons (tVar 10) (lCons (tVar 11) lNil)))))
  sNil)
    sNil)
  (sCons (sIf (tTest (tBin dEq (tVar 21) (tLit (.str 4))))
    (sCons (sRet (tCall τ338 (lCons (tCall τ345 (lCons (tVar 22) (lCons (tCall τ350 (lCons (tVar 23) lNil)) (lCons (tLit (.int 0)) lNil)))) (lCons (tVar 10) (lCons (tVar 11) lNil)))))
  sNil)
    sNil)
  (sCons (sIf (tTest (tBin dEq (tVar 21) (tLit (.str 2))))
    (sCons (sRet (tCall τ331 (lCons (tCall τ355 (lCons (tVar 22) (lCons (tVar 23) (lCons (tVar 10) lNil)))) (lCons (tVar 10) (lCons (tVar 11) lNil)))))
  sNil)
    sNil)
  (sCons (sIf (tTest (tBin dIn (tVar 21) (tList (lCons (tLit (.str 5)) (lCons (tLit (.str 6)) lNil)))))
    (sCons (sRet (tCall τ374 (lCons (tVar 21) (lCons (tVar 22) (lCons (tVar 23) (lCons (tVar 10) (lCons (tVar 11) lNil)))))))
  sNil)
    sNil)
  (sCons (sAssign 24 (tBin dMulI (tLit (.int 8)) (tVar 10)))
  (sCons (sAssign 20 (tComp2 15 9 [] (rList (tSlice (tVar 22) oNone (oSome (tVar 10)))) (rRange (tLit (.int 8))) (tBin dMod (tBin dFdiv (tVar 15) (tBin dPow (tLit (.int 2)) (tVar 9))) (tLit (.int 2)))))
  (sCons (sAssign 25 (tBin dMod (tBin dIdx (tVar 23) (tLit (.int 0))) (tVar 24)))
  (sCons (sIf (tTest (tBin dEq (tVar 21) (tLit (.str 7))))
    (sCons (sAssign 20 (tBin dAddL (tBin dMulL (tList (lCons (tLit (.int 0)) lNil)) (tVar 25)) (tSlice (tVar 20) oNone (oSome (tBin dSub (tVar 24) (tVar 25))))))
  sNil)
    (sCons (sIf (tTest (tBin dEq (tVar 21) (tLit (.str 8))))
    (sCons (sAssign 20 (tBin dAddL (tSlice (tVar 20) (oSome (tVar 25)) oNone) (tBin dMulL (tList (lCons (tIte (tTest (tVar 11)) (tBin dIdx (tVar 20) (tBin dSub (tVar 24) (tLit (.int 1)))) (tLit (.int 0))) lNil)) (tVar 25))))
  sNil)
    (sCons (sIf (tTest (tBin dEq (tVar 21) (tLit (.str 10))))
    (sCons (sAssign 20 (tBin dAddL (tSlice (tVar 20) (oSome (tBin dSub (tVar 24) (tVar 25))) oNone) (tSlice (tVar 20) oNone (oSome (tBin dSub (tVar 24) (tVar 25))))))
  sNil)
    (sCons (sIf (tTest (tBin dEq (tVar 21) (tLit (.str 11))))
    (sCons (sAssign 20 (tBin dAddL (tSlice (tVar 20) (oSome (tVar 25)) oNone) (tSlice (tVar 20) oNone (oSome (tVar 25)))))
  sNil)
    (sCons (sAssignComp 26 (tComp 9 [20] (rRange (tVar 24)) (tTest (tBin dEq (tBin dIdx (tVar 20) (tVar 9)) (tLit (.int 1)))) (tVar 9)))
  (sCons (sRet (tCall τ317 (lCons (tDictIdx (pCons 12 (tBin dSub (tBin dSub (tVar 24) (tLit (.int 1))) (tCall fMaxL (lCons (tBin dAddL (tList (lCons (tNeg (tLit (.int 1))) lNil)) (tVar 26)) lNil))) (pCons 13 (tCall fMinL (lCons (tBin dAddL (tVar 26) (tList (lCons (tVar 24) lNil))) lNil)) (pCons 14 (tCall fLen (lCons (tVar 26) lNil)) pNil))) (tVar 21)) lNil)))
  sNil)))
  sNil))
  sNil))
  sNil))
  (sCons (sRet (tCall τ331 (lCons (tCall τ367 (lCons (tVar 20) (lCons (tVar 10) lNil))) (lCons (tVar 10) (lCons (tVar 11) lNil)))))
  sNil))))))))))))
set_option maxHeartbeats 600000 in
theorem dv379 {n : Nat} {τ331 : FT} (h331 : Spec Ω n (.ref 331) τ331) {τ367 : FT} (h367 : Spec Ω n (.ref 367) τ367) {τ317 : FT} (h317 : Spec Ω n (.ref 317) τ317) {τ374 : FT} (h374 : Spec Ω n (.ref 374) τ374) {τ355 : FT} (h355 : Spec Ω n (.ref 355) τ355) {τ338 : FT} (h338 : Spec Ω n (.ref 338) τ338) {τ345 : FT} (h345 : Spec Ω n (.ref 345) τ345) {τ350 : FT} (h350 : Spec Ω n (.ref 350) τ350) (L : Addr) (outer : List Env) (O : Addr → Prop) : Wr (EXs Ω n (fctx fd379 379 L outer O) (bodyOf fd379) (T379 τ331 τ367 τ317 τ374 τ355 τ338 τ345 τ350)) :=
  (exs_consW (ex_ifW (tv_cmpW op_eq (ev_varW 21 _) (ev_strW 9 (by decide) _ _))
    (exs_consW (ex_retW (ev_callW rfl (by with_unfolding_all rfl) (kg_law_clamped hΩ) (by decide +kernel) (kk_law_clamped hΩ) h338 (evs_consW (ev_varW 22 _) (evs_consW (ev_varW 10 _) (evs_consW (ev_varW 11 _) evs_nilW)))))
  exs_nilW)
    exs_nilW)
  (exs_consW (ex_ifW (tv_cmpW op_eq (ev_varW 21 _) (ev_strW 0 (by decide) _ _))
    (exs_consW (ex_retW (ev_callW rfl (by with_unfolding_all rfl) (kg_law_grown hΩ) (by decide +kernel) (kk_law_grown hΩ) h331 (evs_consW (ev_callW rfl (by with_unfolding_all rfl) (kg_law_sum hΩ) (by decide +kernel) (kk_law_sum hΩ) h345 (evs_consW (ev_varW 22 _) (evs_consW (ev_varW 23 _) (evs_consW (ev_intW _ _ _) evs_nilW)))) (evs_consW (ev_varW 10 _) (evs_consW (ev_varW 11 _) evs_nilW)))))
  exs_nilW)
    exs_nilW)
  (exs_consW (ex_ifW (tv_cmpW op_eq (ev_varW 21 _) (ev_strW 1 (by decide) _ _))
    (exs_consW (ex_retW (ev_callW rfl (by with_unfolding_all rfl) (kg_law_grown hΩ) (by decide +kernel) (kk_law_grown hΩ) h331 (evs_consW (ev_callW rfl (by with_unfolding_all rfl) (kg_law_sum hΩ) (by decide +kernel) (kk_law_sum hΩ) h345 (evs_consW (ev_varW 22 _) (evs_consW (ev_callW rfl (by with_unfolding_all rfl) (kg_law_minus hΩ) (by decide +kernel) (kk_law_minus hΩ) h350 (evs_consW (ev_varW 23 _) evs_nilW)) (evs_consW (ev_intW _ _ _) evs_nilW)))) (evs_consW (ev_varW 10 _) (evs_consW (ev_varW 11 _) evs_nilW)))))
  exs_nilW)
    exs_nilW)
  (exs_consW (ex_ifW (tv_cmpW op_eq (ev_varW 21 _) (ev_strW 3 (by decide) _ _))
    (exs_consW (ex_retW (ev_callW rfl (by with_unfolding_all rfl) (kg_law_clamped hΩ) (by decide +kernel) (kk_law_clamped hΩ) h338 (evs_consW (ev_callW rfl (by with_unfolding_all rfl) (kg_law_sum hΩ) (by decide +kernel) (kk_law_sum hΩ) h345 (evs_consW (ev_varW 22 _) (evs_consW (ev_varW 23 _) (evs_consW (ev_intW _ _ _) evs_nilW)))) (evs_consW (ev_varW 10 _) (evs_consW (ev_varW 11 _) evs_nilW)))))
  exs_nilW)
    exs_nilW)
  (exs_consW (ex_ifW (tv_cmpW op_eq (ev_varW 21 _) (ev_strW 4 (by decide) _ _))
    (exs_consW (ex_retW (ev_callW rfl (by with_unfolding_all rfl) (kg_law_clamped hΩ) (by decide +kernel) (kk_law_clamped hΩ) h338 (evs_consW (ev_callW rfl (by with_unfolding_all rfl) (kg_law_sum hΩ) (by decide +kernel) (kk_law_sum hΩ) h345 (evs_consW (ev_varW 22 _) (evs_consW (ev_callW rfl (by with_unfolding_all rfl) (kg_law_minus hΩ) (by decide +kernel) (kk_law_minus hΩ) h350 (evs_consW (ev_varW 23 _) evs_nilW)) (evs_consW (ev_intW _ _ _) evs_nilW)))) (evs_consW (ev_varW 10 _) (evs_consW (ev_varW 11 _) evs_nilW)))))
  exs_nilW)
    exs_nilW)
  (exs_consW (ex_ifW (tv_cmpW op_eq (ev_varW 21 _) (ev_strW 2 (by decide) _ _))
    (exs_consW (ex_retW (ev_callW rfl (by with_unfolding_all rfl) (kg_law_grown hΩ) (by decide +kernel) (kk_law_grown hΩ) h331 (evs_consW (ev_callW rfl (by with_unfolding_all rfl) (kg_law_product hΩ) (by decide +kernel) (kk_law_product hΩ) h355 (evs_consW (ev_varW 22 _) (evs_consW (ev_varW 23 _) (evs_consW (ev_varW 10 _) evs_nilW)))) (evs_consW (ev_varW 10 _) (evs_consW (ev_varW 11 _) evs_nilW)))))
  exs_nilW)
    exs_nilW)
  (exs_consW (ex_ifW (tv_cmpW op_in (ev_varW 21 _) (ev_listW (evs_consW (ev_strW 5 (by decide) _ _) (evs_consW (ev_strW 6 (by decide) _ _) evs_nilW))))
    (exs_consW (ex_retW (ev_callW rfl (by with_unfolding_all rfl) (kg_law_quotient hΩ) (by decide +kernel) (kk_law_quotient hΩ) h374 (evs_consW (ev_varW 21 _) (evs_consW (ev_varW 22 _) (evs_consW (ev_varW 23 _) (evs_consW (ev_varW 10 _) (evs_consW (ev_varW 11 _) evs_nilW)))))))
  exs_nilW)
    exs_nilW)
  (exs_consW (ex_assignW ⟨by decide, .inl (by with_unfolding_all rfl)⟩ (ev_binW op_mulI (ev_intW _ _ _) (ev_varW 10 _)))
  (exs_consW (ex_assignW ⟨by decide, .inr ⟨by with_unfolding_all rfl, by with_unfolding_all rfl⟩⟩ (ev_comp2W ⟨by with_unfolding_all rfl, by with_unfolding_all rfl, by with_unfolding_all rfl, by with_unfolding_all rfl, fvOk_nil, fun C O => ⟨by decide, .inl (by with_unfolding_all rfl)⟩, by with_unfolding_all rfl⟩ (fun C O => ⟨by decide, by with_unfolding_all rfl⟩) (by decide) (by decide) (by decide) (src_listW (ev_sliceW (ev_varW 22 _) evo_noneW (evo_someW (ev_varW 10 _)))) (fun C O => (src_rangeW (ev_intW _ _ _) (by with_unfolding_all rfl) (kb_range hΩ))) (fun C O => (ev_binW op_mod (ev_binW op_fdiv (ev_varW 15 _) (ev_binW op_pow (ev_intW _ _ _) (ev_varW 9 _))) (ev_intW _ _ _)))))
  (exs_consW (ex_assignW ⟨by decide, .inl (by with_unfolding_all rfl)⟩ (ev_binW op_mod (ev_idxW (ev_varW 23 _) (ev_intW _ _ _)) (ev_varW 24 _)))
  (exs_consW (ex_ifW (tv_cmpW op_eq (ev_varW 21 _) (ev_strW 7 (by decide) _ _))
    (exs_consW (ex_assignW ⟨by decide, .inr ⟨by with_unfolding_all rfl, by with_unfolding_all rfl⟩⟩ (ev_binW op_addL (ev_binW op_mulL (ev_listW (evs_consW (ev_intW _ _ _) evs_nilW)) (ev_varW 25 _)) (ev_sliceW (ev_varW 20 _) evo_noneW (evo_someW (ev_binW op_sub (ev_varW 24 _) (ev_varW 25 _))))))
  exs_nilW)
    (exs_consW (ex_ifW (tv_cmpW op_eq (ev_varW 21 _) (ev_strW 8 (by decide) _ _))
    (exs_consW (ex_assignW ⟨by decide, .inr ⟨by with_unfolding_all rfl, by with_unfolding_all rfl⟩⟩ (ev_binW op_addL (ev_sliceW (ev_varW 20 _) (evo_someW (ev_varW 25 _)) evo_noneW) (ev_binW op_mulL (ev_listW (evs_consW (ev_iteW (tv_nameW (ev_varW 11 _)) (ev_idxW (ev_varW 20 _) (ev_binW op_sub (ev_varW 24 _) (ev_intW _ _ _))) (ev_intW _ _ _)) evs_nilW)) (ev_varW 25 _))))
  exs_nilW)
    (exs_consW (ex_ifW (tv_cmpW op_eq (ev_varW 21 _) (ev_strW 10 (by decide) _ _))
    (exs_consW (ex_assignW ⟨by decide, .inr ⟨by with_unfolding_all rfl, by with_unfolding_all rfl⟩⟩ (ev_binW op_addL (ev_sliceW (ev_varW 20 _) (evo_someW (ev_binW op_sub (ev_varW 24 _) (ev_varW 25 _))) evo_noneW) (ev_sliceW (ev_varW 20 _) evo_noneW (evo_someW (ev_binW op_sub (ev_varW 24 _) (ev_varW 25 _))))))
  exs_nilW)
    (exs_consW (ex_ifW (tv_cmpW op_eq (ev_varW 21 _) (ev_strW 11 (by decide) _ _))
    (exs_consW (ex_assignW ⟨by decide, .inr ⟨by with_unfolding_all rfl, by with_unfolding_all rfl⟩⟩ (ev_binW op_addL (ev_sliceW (ev_varW 20 _) (evo_someW (ev_varW 25 _)) evo_noneW) (ev_sliceW (ev_varW 20 _) evo_noneW (evo_someW (ev_varW 25 _)))))
  exs_nilW)
    (exs_consW (ex_assignCompW ⟨by decide, by with_unfolding_all rfl⟩ ⟨by with_unfolding_all rfl, by with_unfolding_all rfl, by with_unfolding_all rfl, by with_unfolding_all rfl, (fvOk_cons (by with_unfolding_all rfl) (fun C => ⟨by with_unfolding_all rfl, by with_unfolding_all rfl⟩) fvOk_nil), fun C O => ⟨by decide, .inl (by with_unfolding_all rfl)⟩, by with_unfolding_all rfl⟩ (src_rangeW (ev_varW 24 _) (by with_unfolding_all rfl) (kb_range hΩ)) (fun C O => (evt_oneW (tv_cmpW op_eq (ev_idxW (ev_varW 20 _) (ev_varW 9 _)) (ev_intW _ _ _)))) (fun C O => (ev_varW 9 _)))
  (exs_consW (ex_retW (ev_callW rfl (by with_unfolding_all rfl) (kg_law_row hΩ) (by decide +kernel) (kk_law_row hΩ) h317 (evs_consW (ev_dictIdxW (fun O' => (evp_consW (by decide) (ev_binW op_sub (ev_binW op_sub (ev_varW 24 _) (ev_intW _ _ _)) (ev_bcallW (by with_unfolding_all rfl) (kb_max hΩ) (by decide +kernel) (by decide +kernel) (by decide +kernel) b_maxL (evs_consW (ev_binW op_addL (ev_listW (evs_consW (ev_negW (ev_intW _ _ _)) evs_nilW)) (ev_varW 26 _)) evs_nilW))) (evp_consW (by decide) (ev_bcallW (by with_unfolding_all rfl) (kb_min hΩ) (by decide +kernel) (by decide +kernel) (by decide +kernel) b_minL (evs_consW (ev_binW op_addL (ev_varW 26 _) (ev_listW (evs_consW (ev_varW 24 _) evs_nilW))) evs_nilW)) (evp_consW (by decide) (ev_bcallW (by with_unfolding_all rfl) (kb_len hΩ) (by decide +kernel) (by decide +kernel) (by decide +kernel) b_len (evs_consW (ev_varW 26 _) evs_nilW)) evp_nilW)))) (ev_varW 21 _)) evs_nilW)))
  exs_nilW)))
  exs_nilW))
  exs_nilW))
  exs_nilW))
  (exs_consW (ex_retW (ev_callW rfl (by with_unfolding_all rfl) (kg_law_grown hΩ) (by decide +kernel) (kk_law_grown hΩ) h331 (evs_consW (ev_callW rfl (by with_unfolding_all rfl) (kg_law_packed hΩ) (by decide +kernel) (kk_law_packed hΩ) h367 (evs_consW (ev_varW 20 _) (evs_consW (ev_varW 10 _) evs_nilW))) (evs_consW (ev_varW 10 _) (evs_consW (ev_varW 11 _) evs_nilW)))))
  exs_nilW))))))))))))
noncomputable def T386 (Ω : Wd) (n : Nat)  : TS :=
  (sCons (sTry (sCons (sIf (tTest (tBin dEq (tVar 21) (tLit (.str 0))))
    (sCons (sRet (tMeth Ω n (Str.ofString "add") (tVar 27) (lCons (tVar 4) (lCons (tVar 5) lNil))))
  sNil)
    sNil)
  (sCons (sIf (tTest (tBin dEq (tVar 21) (tLit (.str 1))))
    (sCons (sRet (tMeth Ω n (Str.ofString "sub") (tVar 27) (lCons (tVar 4) (lCons (tVar 5) lNil))))
  sNil)
    sNil)
  (sCons (sIf (tTest (tBin dEq (tVar 21) (tLit (.str 2))))
    (sCons (sRet (tMeth Ω n (Str.ofString "mul") (tVar 27) (lCons (tVar 4) (lCons (tVar 5) lNil))))
  sNil)
    sNil)
  (sCons (sIf (tTest (tBin dEq (tVar 21) (tLit (.str 3))))
    (sCons (sRet (tMeth Ω n (Str.ofString "add_sat") (tVar 27) (lCons (tVar 4) (lCons (tVar 5) lNil))))
  sNil)
    sNil)
  (sCons (sIf (tTest (tBin dEq (tVar 21) (tLit (.str 4))))
    (sCons (sRet (tMeth Ω n (Str.ofString "sub_sat") (tVar 27) (lCons (tVar 4) (lCons (tVar 5) lNil))))
  sNil)
    sNil)
  (sCons (sIf (tTest (tBin dEq (tVar 21) (tLit (.str 5))))
    (sCons (sRet (tMeth Ω n (Str.ofString "div") (tVar 27) (lCons (tVar 4) (lCons (tVar 5) lNil))))
  sNil)
    sNil)
  (sCons (sIf (tTest (tBin dEq (tVar 21) (tLit (.str 6))))
    (sCons (sRet (tMeth Ω n (Str.ofString "rem") (tVar 27) (lCons (tVar 4) (lCons (tVar 5) lNil))))
  sNil)
    sNil)
  (sCons (sIf (tTest (tBin dEq (tVar 21) (tLit (.str 7))))
    (sCons (sRet (tMeth Ω n (Str.ofString "shl") (tVar 27) (lCons (tVar 4) (lCons (tVar 5) lNil))))
  sNil)
    sNil)
  (sCons (sIf (tTest (tBin dEq (tVar 21) (tLit (.str 8))))
    (sCons (sRet (tMeth Ω n (Str.ofString "shr") (tVar 27) (lCons (tVar 4) (lCons (tVar 5) lNil))))
  sNil)
    sNil)
  (sCons (sIf (tTest (tBin dEq (tVar 21) (tLit (.str 9))))
    (sCons (sRet (tMeth Ω n (Str.ofString "sat") (tVar 27) (lCons (tVar 4) lNil)))
  sNil)
    sNil)
  (sCons (sIf (tTest (tBin dEq (tVar 21) (tLit (.str 10))))
    (sCons (sRet (tMeth Ω n (Str.ofString "rotl") (tVar 27) (lCons (tVar 4) (lCons (tVar 5) lNil))))
  sNil)
    sNil)
  (sCons (sIf (tTest (tBin dEq (tVar 21) (tLit (.str 11))))
    (sCons (sRet (tMeth Ω n (Str.ofString "rotr") (tVar 27) (lCons (tVar 4) (lCons (tVar 5) lNil))))
  sNil)
    sNil)
  (sCons (sIf (tTest (tBin dEq (tVar 21) (tLit (.str 12))))
    (sCons (sRet (tMeth Ω n (Str.ofString "clz") (tVar 27) (lCons (tVar 4) lNil)))
  sNil)
    sNil)
  (sCons (sIf (tTest (tBin dEq (tVar 21) (tLit (.str 13))))
    (sCons (sRet (tMeth Ω n (Str.ofString "ctz") (tVar 27) (lCons (tVar 4) lNil)))
  sNil)
    sNil)
  (sCons (sRet (tMeth Ω n (Str.ofString "popcnt") (tVar 27) (lCons (tVar 4) lNil)))
  sNil))))))))))))))) [(0, 15), (1, 16)])
  sNil)
set_option maxHeartbeats 600000 in
theorem dv386 {n : Nat}  (L : Addr) (outer : List Env) (O : Addr → Prop) : Wr (EXs Ω n (fctx fd386 386 L outer O) (bodyOf fd386) (T386 Ω n )) :=
  (exs_consW (ex_tryW rfl (by intro k hk; match k, hk with | 0, _ => exact ⟨by with_unfolding_all rfl, kb_ZeroDivisionError hΩ⟩ | 1, _ => exact ⟨by with_unfolding_all rfl, kb_AssertionError hΩ⟩) (exs_consW (ex_ifW (tv_cmpW op_eq (ev_varW 21 _) (ev_strW 0 (by decide) _ _))
    (exs_consW (ex_retW (ev_methW rfl (ev_varW 27 _) (evs_consW (ev_varW 4 _) (evs_consW (ev_varW 5 _) evs_nilW))))
  exs_nilW)
    exs_nilW)
  (exs_consW (ex_ifW (tv_cmpW op_eq (ev_varW 21 _) (ev_strW 1 (by decide) _ _))
    (exs_consW (ex_retW (ev_methW rfl (ev_varW 27 _) (evs_consW (ev_varW 4 _) (evs_consW (ev_varW 5 _) evs_nilW))))
  exs_nilW)
    exs_nilW)
  (exs_consW (ex_ifW (tv_cmpW op_eq (ev_varW 21 _) (ev_strW 2 (by decide) _ _))
    (exs_consW (ex_retW (ev_methW rfl (ev_varW 27 _) (evs_consW (ev_varW 4 _) (evs_consW (ev_varW 5 _) evs_nilW))))
  exs_nilW)
    exs_nilW)
  (exs_consW (ex_ifW (tv_cmpW op_eq (ev_varW 21 _) (ev_strW 3 (by decide) _ _))
    (exs_consW (ex_retW (ev_methW rfl (ev_varW 27 _) (evs_consW (ev_varW 4 _) (evs_consW (ev_varW 5 _) evs_nilW))))
  exs_nilW)
    exs_nilW)
  (exs_consW (ex_ifW (tv_cmpW op_eq (ev_varW 21 _) (ev_strW 4 (by decide) _ _))
    (exs_consW (ex_retW (ev_methW rfl (ev_varW 27 _) (evs_consW (ev_varW 4 _) (evs_consW (ev_varW 5 _) evs_nilW))))
  exs_nilW)
    exs_nilW)
  (exs_consW (ex_ifW (tv_cmpW op_eq (ev_varW 21 _) (ev_strW 5 (by decide) _ _))
    (exs_consW (ex_retW (ev_methW rfl (ev_varW 27 _) (evs_consW (ev_varW 4 _) (evs_consW (ev_varW 5 _) evs_nilW))))
  exs_nilW)
    exs_nilW)
  (exs_consW (ex_ifW (tv_cmpW op_eq (ev_varW 21 _) (ev_strW 6 (by decide) _ _))
    (exs_consW (ex_retW (ev_methW rfl (ev_varW 27 _) (evs_consW (ev_varW 4 _) (evs_consW (ev_varW 5 _) evs_nilW))))
  exs_nilW)
    exs_nilW)
  (exs_consW (ex_ifW (tv_cmpW op_eq (ev_varW 21 _) (ev_strW 7 (by decide) _ _))
    (exs_consW (ex_retW (ev_methW rfl (ev_varW 27 _) (evs_consW (ev_varW 4 _) (evs_consW (ev_varW 5 _) evs_nilW))))
  exs_nilW)
    exs_nilW)
  (exs_consW (ex_ifW (tv_cmpW op_eq (ev_varW 21 _) (ev_strW 8 (by decide) _ _))
    (exs_consW (ex_retW (ev_methW rfl (ev_varW 27 _) (evs_consW (ev_varW 4 _) (evs_consW (ev_varW 5 _) evs_nilW))))
  exs_nilW)
    exs_nilW)
  (exs_consW (ex_ifW (tv_cmpW op_eq (ev_varW 21 _) (ev_strW 9 (by decide) _ _))
    (exs_consW (ex_retW (ev_methW rfl (ev_varW 27 _) (evs_consW (ev_varW 4 _) evs_nilW)))
  exs_nilW)
    exs_nilW)
  (exs_consW (ex_ifW (tv_cmpW op_eq (ev_varW 21 _) (ev_strW 10 (by decide) _ _))
    (exs_consW (ex_retW (ev_methW rfl (ev_varW 27 _) (evs_consW (ev_varW 4 _) (evs_consW (ev_varW 5 _) evs_nilW))))
  exs_nilW)
    exs_nilW)
  (exs_consW (ex_ifW (tv_cmpW op_eq (ev_varW 21 _) (ev_strW 11 (by decide) _ _))
    (exs_consW (ex_retW (ev_methW rfl (ev_varW 27 _) (evs_consW (ev_varW 4 _) (evs_consW (ev_varW 5 _) evs_nilW))))
  exs_nilW)
    exs_nilW)
  (exs_consW (ex_ifW (tv_cmpW op_eq (ev_varW 21 _) (ev_strW 12 (by decide) _ _))
    (exs_consW (ex_retW (ev_methW rfl (ev_varW 27 _) (evs_consW (ev_varW 4 _) evs_nilW)))
  exs_nilW)
    exs_nilW)
  (exs_consW (ex_ifW (tv_cmpW op_eq (ev_varW 21 _) (ev_strW 13 (by decide) _ _))
    (exs_consW (ex_retW (ev_methW rfl (ev_varW 27 _) (evs_consW (ev_varW 4 _) evs_nilW)))
  exs_nilW)
    exs_nilW)
  (exs_consW (ex_retW (ev_methW rfl (ev_varW 27 _) (evs_consW (ev_varW 4 _) evs_nilW)))
  exs_nilW))))))))))))))) (.cons (by decide) (.cons (by decide) .nil)) (by decide))
  exs_nilW)
noncomputable def B393 (Ω : Wd) (n : Nat) (τ386 : FT) (τ298 : FT) : TS :=
  (sCons (sAssign 4 (tMeth Ω n (Str.ofString "fit") (tVar 27) (lCons (tVar 6) lNil)))
  (sCons (sAssign 28 (tNeg (tBin dPow (tLit (.int 2)) (tBin dSub (tBin dMulI (tLit (.int 8)) (tVar 10)) (tLit (.int 1))))))
  (sCons (sIf (tOr (tTest (tBin dNe (tCall τ386 (lCons (tVar 27) (lCons (tLit (.str 5)) (lCons (tVar 4) (lCons (tLit (.int 0)) lNil))))) (tLit (.str 15)))) (tTest (tBin dNe (tCall τ386 (lCons (tVar 27) (lCons (tLit (.str 6)) (lCons (tVar 4) (lCons (tLit (.int 0)) lNil))))) (tLit (.str 15)))))
    (sCons (sRet (tLit (.bool false)))
  sNil)
    sNil)
  (sCons (sIf (tAnd (tTest (tVar 11)) (tOr (tTest (tBin dNe (tCall τ386 (lCons (tVar 27) (lCons (tLit (.str 5)) (lCons (tVar 28) (lCons (tNeg (tLit (.int 1))) lNil))))) (tLit (.str 16)))) (tTest (tBin dNe (tCall τ386 (lCons (tVar 27) (lCons (tLit (.str 6)) (lCons (tVar 28) (lCons (tNeg (tLit (.int 1))) lNil))))) (tLit (.int 0))))))
    (sCons (sRet (tLit (.bool false)))
  sNil)
    sNil)
  sNil))))
noncomputable def T393 (Ω : Wd) (n : Nat) (τ386 : FT) (τ298 : FT) : TS :=
  (sCons (sForLT [27, 10, 11] (tCall τ298 lNil) (B393 Ω n τ386 τ298))
  (sCons (sRet (tLit (.bool true)))
  sNil))
set_option maxHeartbeats 600000 in
theorem dv393 {n : Nat} {τ386 : FT} (h386 : Spec Ω n (.ref 386) τ386) {τ298 : FT} (h298 : Spec Ω n (.ref 298) τ298) (L : Addr) (outer : List Env) (O : Addr → Prop) : Wr (EXs Ω n (fctx fd393 393 L outer O) (bodyOf fd393) (T393 Ω n τ386 τ298)) :=
  (exs_consW (ex_forLTW (.cons 27 (.cons 10 (.cons 11 .nil))) (allC ⟨by decide, .inl (by with_unfolding_all rfl)⟩ (allC ⟨by decide, .inl (by with_unfolding_all rfl)⟩ (allC ⟨by decide, .inl (by with_unfolding_all rfl)⟩ allN))) (ev_call0W rfl (by with_unfolding_all rfl) (kg_law_kinds hΩ) (by decide +kernel) (kk_law_kinds hΩ) h298) (fun O' => (exs_consW (ex_assignW ⟨by decide, .inl (by with_unfolding_all rfl)⟩ (ev_methW rfl (ev_varW 27 _) (evs_consW (ev_varW 6 _) evs_nilW)))
  (exs_consW (ex_assignW ⟨by decide, .inl (by with_unfolding_all rfl)⟩ (ev_negW (ev_binW op_pow (ev_intW _ _ _) (ev_binW op_sub (ev_binW op_mulI (ev_intW _ _ _) (ev_varW 10 _)) (ev_intW _ _ _)))))
  (exs_consW (ex_ifW (tv_orW (tv_cmpW op_ne (ev_callW rfl (by with_unfolding_all rfl) (kg_law_told hΩ) (by decide +kernel) (kk_law_told hΩ) h386 (evs_consW (ev_varW 27 _) (evs_consW (ev_strW 5 (by decide) _ _) (evs_consW (ev_varW 4 _) (evs_consW (ev_intW _ _ _) evs_nilW))))) (ev_strW 15 (by decide) _ _)) (tv_cmpW op_ne (ev_callW rfl (by with_unfolding_all rfl) (kg_law_told hΩ) (by decide +kernel) (kk_law_told hΩ) h386 (evs_consW (ev_varW 27 _) (evs_consW (ev_strW 6 (by decide) _ _) (evs_consW (ev_varW 4 _) (evs_consW (ev_intW _ _ _) evs_nilW))))) (ev_strW 15 (by decide) _ _)))
    (exs_consW (ex_retW (ev_boolW _ _ _))
  exs_nilW)
    exs_nilW)
  (exs_consW (ex_ifW (tv_andW (tv_nameW (ev_varW 11 _)) (tv_orW (tv_cmpW op_ne (ev_callW rfl (by with_unfolding_all rfl) (kg_law_told hΩ) (by decide +kernel) (kk_law_told hΩ) h386 (evs_consW (ev_varW 27 _) (evs_consW (ev_strW 5 (by decide) _ _) (evs_consW (ev_varW 28 _) (evs_consW (ev_negW (ev_intW _ _ _)) evs_nilW))))) (ev_strW 16 (by decide) _ _)) (tv_cmpW op_ne (ev_callW rfl (by with_unfolding_all rfl) (kg_law_told hΩ) (by decide +kernel) (kk_law_told hΩ) h386 (evs_consW (ev_varW 27 _) (evs_consW (ev_strW 6 (by decide) _ _) (evs_consW (ev_varW 28 _) (evs_consW (ev_negW (ev_intW _ _ _)) evs_nilW))))) (ev_intW _ _ _))))
    (exs_consW (ex_retW (ev_boolW _ _ _))
  exs_nilW)
    exs_nilW)
  exs_nilW))))))
  (exs_consW (ex_retW (ev_boolW _ _ _))
  exs_nilW))
end
end Mine
end
section
open PySem PySem.W PyProof.Rows PySem.Calls
set_option Elab.async false
set_option linter.all false
set_option autoImplicit false
set_option maxRecDepth 100000
namespace Mine
section
variable {Ω : Wd} (hΩ : Ω.K = K0 Ω.w.params)
include hΩ
noncomputable def T35 (Ω : Wd) (n : Nat)  : TS :=
  (sCons (sAssert (tTest (tBin dEq (tCall fLenB (lCons (tVar 2) lNil)) (tAttr Ω (Str.ofString "byte_length") (tVar 0)))))
  (sCons (sRet (tFromBytes true (tVar 2)))
  sNil))
set_option maxHeartbeats 600000 in
theorem dv35 {n : Nat}  (L : Addr) (outer : List Env) (O : Addr → Prop) : Wr (EXs Ω n (fctx fd35 35 L outer O) (bodyOf fd35) (T35 Ω n )) :=
  (exs_consW (ex_assertW (tv_cmpW op_eq (ev_bcallW (by with_unfolding_all rfl) (kb_len hΩ) (by decide +kernel) (by decide +kernel) (by decide +kernel) b_lenB (evs_consW (ev_varW 2 _) evs_nilW)) (ev_attrW (ev_varW 0 _))))
  (exs_consW (ex_retW (ev_fromBytesW (by with_unfolding_all rfl) (kb_int hΩ) (kc_from hΩ) (ev_varW 2 _)))
  exs_nilW))
noncomputable def T42 (Ω : Wd) (n : Nat)  : TS :=
  (sCons (sRet (tBa (tToBytes true (tVar 3) (tAttr Ω (Str.ofString "byte_length") (tVar 0)))))
  sNil)
set_option maxHeartbeats 600000 in
theorem dv42 {n : Nat}  (L : Addr) (outer : List Env) (O : Addr → Prop) : Wr (EXsN Ω n (fctx fd42 42 L outer O) (bodyOf fd42) (T42 Ω n )) :=
  (exsN_consW (exN_retW (evN_baW (ev_toBytesW (ev_varW 3 _) (ev_attrW (ev_varW 0 _))) (by with_unfolding_all rfl) (kb_bytearray hΩ)))
  (exsN_ofW exs_nilW))
noncomputable def T49 (Ω : Wd) (n : Nat)  : TS :=
  (sCons (sAssign 3 (tBin dAndI (tVar 3) (tAttr Ω (Str.ofString "mask") (tVar 0))))
  (sCons (sAssign 3 (tBin dSub (tVar 3) (tBin dShl (tBin dAndI (tVar 3) (tAttr Ω (Str.ofString "mask_sign") (tVar 0))) (tLit (.int 1)))))
  (sCons (sRet (tVar 3))
  sNil)))
set_option maxHeartbeats 600000 in
theorem dv49 {n : Nat}  (L : Addr) (outer : List Env) (O : Addr → Prop) : Wr (EXs Ω n (fctx fd49 49 L outer O) (bodyOf fd49) (T49 Ω n )) :=
  (exs_consW (ex_assignW ⟨by decide, .inl (by with_unfolding_all rfl)⟩ (ev_binW op_and (ev_varW 3 _) (ev_attrW (ev_varW 0 _))))
  (exs_consW (ex_assignW ⟨by decide, .inl (by with_unfolding_all rfl)⟩ (ev_binW op_sub (ev_varW 3 _) (ev_binW op_shl (ev_binW op_and (ev_varW 3 _) (ev_attrW (ev_varW 0 _))) (ev_intW _ _ _))))
  (exs_consW (ex_retW (ev_varW 3 _))
  exs_nilW)))
noncomputable def T56 (Ω : Wd) (n : Nat)  : TS :=
  (sCons (sRet (tCall fMax2 (lCons (tCall fMin2 (lCons (tVar 3) (lCons (tAttr Ω (Str.ofString "max") (tVar 0)) lNil))) (lCons (tAttr Ω (Str.ofString "min") (tVar 0)) lNil))))
  sNil)
set_option maxHeartbeats 600000 in
theorem dv56 {n : Nat}  (L : Addr) (outer : List Env) (O : Addr → Prop) : Wr (EXs Ω n (fctx fd56 56 L outer O) (bodyOf fd56) (T56 Ω n )) :=
  (exs_consW (ex_retW (ev_bcallW (by with_unfolding_all rfl) (kb_max hΩ) (by decide +kernel) (by decide +kernel) (by decide +kernel) b_max2 (evs_consW (ev_bcallW (by with_unfolding_all rfl) (kb_min hΩ) (by decide +kernel) (by decide +kernel) (by decide +kernel) b_min2 (evs_consW (ev_varW 3 _) (evs_consW (ev_attrW (ev_varW 0 _)) evs_nilW))) (evs_consW (ev_attrW (ev_varW 0 _)) evs_nilW))))
  exs_nilW)
noncomputable def T63 (Ω : Wd) (n : Nat)  : TS :=
  (sCons (sRet (tMeth Ω n (Str.ofString "fit") (tVar 0) (lCons (tBin dAddI (tVar 4) (tVar 5)) lNil)))
  sNil)
set_option maxHeartbeats 600000 in
theorem dv63 {n : Nat}  (L : Addr) (outer : List Env) (O : Addr → Prop) : Wr (EXs Ω n (fctx fd63 63 L outer O) (bodyOf fd63) (T63 Ω n )) :=
  (exs_consW (ex_retW (ev_methW rfl (ev_varW 0 _) (evs_consW (ev_binW op_addI (ev_varW 4 _) (ev_varW 5 _)) evs_nilW)))
  exs_nilW)
noncomputable def T70 (Ω : Wd) (n : Nat)  : TS :=
  (sCons (sRet (tMeth Ω n (Str.ofString "sat") (tVar 0) (lCons (tBin dAddI (tVar 4) (tVar 5)) lNil)))
  sNil)
set_option maxHeartbeats 600000 in
theorem dv70 {n : Nat}  (L : Addr) (outer : List Env) (O : Addr → Prop) : Wr (EXs Ω n (fctx fd70 70 L outer O) (bodyOf fd70) (T70 Ω n )) :=
  (exs_consW (ex_retW (ev_methW rfl (ev_varW 0 _) (evs_consW (ev_binW op_addI (ev_varW 4 _) (ev_varW 5 _)) evs_nilW)))
  exs_nilW)
noncomputable def T77 (Ω : Wd) (n : Nat)  : TS :=
  (sCons (sRet (tMeth Ω n (Str.ofString "fit") (tVar 0) (lCons (tBin dSub (tVar 4) (tVar 5)) lNil)))
  sNil)
set_option maxHeartbeats 600000 in
theorem dv77 {n : Nat}  (L : Addr) (outer : List Env) (O : Addr → Prop) : Wr (EXs Ω n (fctx fd77 77 L outer O) (bodyOf fd77) (T77 Ω n )) :=
  (exs_consW (ex_retW (ev_methW rfl (ev_varW 0 _) (evs_consW (ev_binW op_sub (ev_varW 4 _) (ev_varW 5 _)) evs_nilW)))
  exs_nilW)
noncomputable def T84 (Ω : Wd) (n : Nat)  : TS :=
  (sCons (sRet (tMeth Ω n (Str.ofString "sat") (tVar 0) (lCons (tBin dSub (tVar 4) (tVar 5)) lNil)))
  sNil)
set_option maxHeartbeats 600000 in
theorem dv84 {n : Nat}  (L : Addr) (outer : List Env) (O : Addr → Prop) : Wr (EXs Ω n (fctx fd84 84 L outer O) (bodyOf fd84) (T84 Ω n )) :=
  (exs_consW (ex_retW (ev_methW rfl (ev_varW 0 _) (evs_consW (ev_binW op_sub (ev_varW 4 _) (ev_varW 5 _)) evs_nilW)))
  exs_nilW)
noncomputable def T91 (Ω : Wd) (n : Nat)  : TS :=
  (sCons (sRet (tMeth Ω n (Str.ofString "fit") (tVar 0) (lCons (tBin dMulI (tVar 4) (tVar 5)) lNil)))
  sNil)
set_option maxHeartbeats 600000 in
theorem dv91 {n : Nat}  (L : Addr) (outer : List Env) (O : Addr → Prop) : Wr (EXs Ω n (fctx fd91 91 L outer O) (bodyOf fd91) (T91 Ω n )) :=
  (exs_consW (ex_retW (ev_methW rfl (ev_varW 0 _) (evs_consW (ev_binW op_mulI (ev_varW 4 _) (ev_varW 5 _)) evs_nilW)))
  exs_nilW)
noncomputable def T98 (Ω : Wd) (n : Nat)  : TS :=
  (sCons (sAssert (tOr (tTest (tBin dNe (tVar 4) (tAttr Ω (Str.ofString "min") (tVar 0)))) (tTest (tBin dNe (tVar 5) (tNeg (tLit (.int 1)))))))
  (sCons (sRet (tIte (tTest (tBin dGt (tBin dMulI (tVar 4) (tVar 5)) (tLit (.int 0)))) (tBin dFdiv (tVar 4) (tVar 5)) (tBin dFdiv (tBin dAddI (tVar 4) (tBin dMod (tNeg (tVar 4)) (tVar 5))) (tVar 5))))
  sNil))
set_option maxHeartbeats 600000 in
theorem dv98 {n : Nat}  (L : Addr) (outer : List Env) (O : Addr → Prop) : Wr (EXs Ω n (fctx fd98 98 L outer O) (bodyOf fd98) (T98 Ω n )) :=
  (exs_consW (ex_assertW (tv_orW (tv_cmpW op_ne (ev_varW 4 _) (ev_attrW (ev_varW 0 _))) (tv_cmpW op_ne (ev_varW 5 _) (ev_negW (ev_intW _ _ _)))))
  (exs_consW (ex_retW (ev_iteW (tv_cmpW op_gt (ev_binW op_mulI (ev_varW 4 _) (ev_varW 5 _)) (ev_intW _ _ _)) (ev_binW op_fdiv (ev_varW 4 _) (ev_varW 5 _)) (ev_binW op_fdiv (ev_binW op_addI (ev_varW 4 _) (ev_binW op_mod (ev_negW (ev_varW 4 _)) (ev_varW 5 _))) (ev_varW 5 _))))
  exs_nilW))
noncomputable def T105  : TS :=
  (sCons (sRet (tIte (tTest (tBin dGt (tBin dMulI (tVar 4) (tVar 5)) (tLit (.int 0)))) (tBin dMod (tVar 4) (tVar 5)) (tNeg (tBin dMod (tNeg (tVar 4)) (tVar 5)))))
  sNil)
set_option maxHeartbeats 600000 in
theorem dv105 {n : Nat}  (L : Addr) (outer : List Env) (O : Addr → Prop) : Wr (EXs Ω n (fctx fd105 105 L outer O) (bodyOf fd105) (T105 )) :=
  (exs_consW (ex_retW (ev_iteW (tv_cmpW op_gt (ev_binW op_mulI (ev_varW 4 _) (ev_varW 5 _)) (ev_intW _ _ _)) (ev_binW op_mod (ev_varW 4 _) (ev_varW 5 _)) (ev_negW (ev_binW op_mod (ev_negW (ev_varW 4 _)) (ev_varW 5 _)))))
  exs_nilW)
noncomputable def T112 (Ω : Wd) (n : Nat)  : TS :=
  (sCons (sRet (tMeth Ω n (Str.ofString "fit") (tVar 0) (lCons (tBin dShl (tVar 4) (tBin dAndI (tVar 5) (tBin dSub (tAttr Ω (Str.ofString "bits_length") (tVar 0)) (tLit (.int 1))))) lNil)))
  sNil)
set_option maxHeartbeats 600000 in
theorem dv112 {n : Nat}  (L : Addr) (outer : List Env) (O : Addr → Prop) : Wr (EXs Ω n (fctx fd112 112 L outer O) (bodyOf fd112) (T112 Ω n )) :=
  (exs_consW (ex_retW (ev_methW rfl (ev_varW 0 _) (evs_consW (ev_binW op_shl (ev_varW 4 _) (ev_binW op_and (ev_varW 5 _) (ev_binW op_sub (ev_attrW (ev_varW 0 _)) (ev_intW _ _ _)))) evs_nilW)))
  exs_nilW)
noncomputable def T119 (Ω : Wd) (n : Nat)  : TS :=
  (sCons (sRet (tMeth Ω n (Str.ofString "fit") (tVar 0) (lCons (tBin dShr (tVar 4) (tBin dAndI (tVar 5) (tBin dSub (tAttr Ω (Str.ofString "bits_length") (tVar 0)) (tLit (.int 1))))) lNil)))
  sNil)
set_option maxHeartbeats 600000 in
theorem dv119 {n : Nat}  (L : Addr) (outer : List Env) (O : Addr → Prop) : Wr (EXs Ω n (fctx fd119 119 L outer O) (bodyOf fd119) (T119 Ω n )) :=
  (exs_consW (ex_retW (ev_methW rfl (ev_varW 0 _) (evs_consW (ev_binW op_shr (ev_varW 4 _) (ev_binW op_and (ev_varW 5 _) (ev_binW op_sub (ev_attrW (ev_varW 0 _)) (ev_intW _ _ _)))) evs_nilW)))
  exs_nilW)
noncomputable def T147 (Ω : Wd) (n : Nat)  : TS :=
  (sCons (sAssert (tTest (tBin dEq (tCall fLenB (lCons (tVar 2) lNil)) (tAttr Ω (Str.ofString "byte_length") (tVar 0)))))
  (sCons (sRet (tFromBytes false (tVar 2)))
  sNil))
set_option maxHeartbeats 600000 in
theorem dv147 {n : Nat}  (L : Addr) (outer : List Env) (O : Addr → Prop) : Wr (EXs Ω n (fctx fd147 147 L outer O) (bodyOf fd147) (T147 Ω n )) :=
  (exs_consW (ex_assertW (tv_cmpW op_eq (ev_bcallW (by with_unfolding_all rfl) (kb_len hΩ) (by decide +kernel) (by decide +kernel) (by decide +kernel) b_lenB (evs_consW (ev_varW 2 _) evs_nilW)) (ev_attrW (ev_varW 0 _))))
  (exs_consW (ex_retW (ev_fromBytesW (by with_unfolding_all rfl) (kb_int hΩ) (kc_from hΩ) (ev_varW 2 _)))
  exs_nilW))
noncomputable def T154 (Ω : Wd) (n : Nat)  : TS :=
  (sCons (sRet (tBa (tToBytes false (tVar 3) (tAttr Ω (Str.ofString "byte_length") (tVar 0)))))
  sNil)
set_option maxHeartbeats 600000 in
theorem dv154 {n : Nat}  (L : Addr) (outer : List Env) (O : Addr → Prop) : Wr (EXsN Ω n (fctx fd154 154 L outer O) (bodyOf fd154) (T154 Ω n )) :=
  (exsN_consW (exN_retW (evN_baW (ev_toBytesW (ev_varW 3 _) (ev_attrW (ev_varW 0 _))) (by with_unfolding_all rfl) (kb_bytearray hΩ)))
  (exsN_ofW exs_nilW))
noncomputable def T161 (Ω : Wd) (n : Nat)  : TS :=
  (sCons (sRet (tBin dAndI (tVar 3) (tAttr Ω (Str.ofString "mask") (tVar 0))))
  sNil)
set_option maxHeartbeats 600000 in
theorem dv161 {n : Nat}  (L : Addr) (outer : List Env) (O : Addr → Prop) : Wr (EXs Ω n (fctx fd161 161 L outer O) (bodyOf fd161) (T161 Ω n )) :=
  (exs_consW (ex_retW (ev_binW op_and (ev_varW 3 _) (ev_attrW (ev_varW 0 _))))
  exs_nilW)
noncomputable def T168 (Ω : Wd) (n : Nat)  : TS :=
  (sCons (sRet (tCall fMax2 (lCons (tCall fMin2 (lCons (tVar 3) (lCons (tAttr Ω (Str.ofString "max") (tVar 0)) lNil))) (lCons (tAttr Ω (Str.ofString "min") (tVar 0)) lNil))))
  sNil)
set_option maxHeartbeats 600000 in
theorem dv168 {n : Nat}  (L : Addr) (outer : List Env) (O : Addr → Prop) : Wr (EXs Ω n (fctx fd168 168 L outer O) (bodyOf fd168) (T168 Ω n )) :=
  (exs_consW (ex_retW (ev_bcallW (by with_unfolding_all rfl) (kb_max hΩ) (by decide +kernel) (by decide +kernel) (by decide +kernel) b_max2 (evs_consW (ev_bcallW (by with_unfolding_all rfl) (kb_min hΩ) (by decide +kernel) (by decide +kernel) (by decide +kernel) b_min2 (evs_consW (ev_varW 3 _) (evs_consW (ev_attrW (ev_varW 0 _)) evs_nilW))) (evs_consW (ev_attrW (ev_varW 0 _)) evs_nilW))))
  exs_nilW)
noncomputable def T175 (Ω : Wd) (n : Nat)  : TS :=
  (sCons (sRet (tMeth Ω n (Str.ofString "fit") (tVar 0) (lCons (tBin dAddI (tVar 4) (tVar 5)) lNil)))
  sNil)
set_option maxHeartbeats 600000 in
theorem dv175 {n : Nat}  (L : Addr) (outer : List Env) (O : Addr → Prop) : Wr (EXs Ω n (fctx fd175 175 L outer O) (bodyOf fd175) (T175 Ω n )) :=
  (exs_consW (ex_retW (ev_methW rfl (ev_varW 0 _) (evs_consW (ev_binW op_addI (ev_varW 4 _) (ev_varW 5 _)) evs_nilW)))
  exs_nilW)
noncomputable def T182 (Ω : Wd) (n : Nat)  : TS :=
  (sCons (sRet (tMeth Ω n (Str.ofString "sat") (tVar 0) (lCons (tBin dAddI (tVar 4) (tVar 5)) lNil)))
  sNil)
set_option maxHeartbeats 600000 in
theorem dv182 {n : Nat}  (L : Addr) (outer : List Env) (O : Addr → Prop) : Wr (EXs Ω n (fctx fd182 182 L outer O) (bodyOf fd182) (T182 Ω n )) :=
  (exs_consW (ex_retW (ev_methW rfl (ev_varW 0 _) (evs_consW (ev_binW op_addI (ev_varW 4 _) (ev_varW 5 _)) evs_nilW)))
  exs_nilW)
noncomputable def T189 (Ω : Wd) (n : Nat)  : TS :=
  (sCons (sRet (tMeth Ω n (Str.ofString "fit") (tVar 0) (lCons (tBin dSub (tVar 4) (tVar 5)) lNil)))
  sNil)
set_option maxHeartbeats 600000 in
theorem dv189 {n : Nat}  (L : Addr) (outer : List Env) (O : Addr → Prop) : Wr (EXs Ω n (fctx fd189 189 L outer O) (bodyOf fd189) (T189 Ω n )) :=
  (exs_consW (ex_retW (ev_methW rfl (ev_varW 0 _) (evs_consW (ev_binW op_sub (ev_varW 4 _) (ev_varW 5 _)) evs_nilW)))
  exs_nilW)
noncomputable def T196 (Ω : Wd) (n : Nat)  : TS :=
  (sCons (sRet (tMeth Ω n (Str.ofString "sat") (tVar 0) (lCons (tBin dSub (tVar 4) (tVar 5)) lNil)))
  sNil)
set_option maxHeartbeats 600000 in
theorem dv196 {n : Nat}  (L : Addr) (outer : List Env) (O : Addr → Prop) : Wr (EXs Ω n (fctx fd196 196 L outer O) (bodyOf fd196) (T196 Ω n )) :=
  (exs_consW (ex_retW (ev_methW rfl (ev_varW 0 _) (evs_consW (ev_binW op_sub (ev_varW 4 _) (ev_varW 5 _)) evs_nilW)))
  exs_nilW)
noncomputable def T203 (Ω : Wd) (n : Nat)  : TS :=
  (sCons (sRet (tMeth Ω n (Str.ofString "fit") (tVar 0) (lCons (tBin dMulI (tVar 4) (tVar 5)) lNil)))
  sNil)
set_option maxHeartbeats 600000 in
theorem dv203 {n : Nat}  (L : Addr) (outer : List Env) (O : Addr → Prop) : Wr (EXs Ω n (fctx fd203 203 L outer O) (bodyOf fd203) (T203 Ω n )) :=
  (exs_consW (ex_retW (ev_methW rfl (ev_varW 0 _) (evs_consW (ev_binW op_mulI (ev_varW 4 _) (ev_varW 5 _)) evs_nilW)))
  exs_nilW)
noncomputable def T210  : TS :=
  (sCons (sRet (tBin dFdiv (tVar 4) (tVar 5)))
  sNil)
set_option maxHeartbeats 600000 in
theorem dv210 {n : Nat}  (L : Addr) (outer : List Env) (O : Addr → Prop) : Wr (EXs Ω n (fctx fd210 210 L outer O) (bodyOf fd210) (T210 )) :=
  (exs_consW (ex_retW (ev_binW op_fdiv (ev_varW 4 _) (ev_varW 5 _)))
  exs_nilW)
noncomputable def T217  : TS :=
  (sCons (sRet (tBin dMod (tVar 4) (tVar 5)))
  sNil)
set_option maxHeartbeats 600000 in
theorem dv217 {n : Nat}  (L : Addr) (outer : List Env) (O : Addr → Prop) : Wr (EXs Ω n (fctx fd217 217 L outer O) (bodyOf fd217) (T217 )) :=
  (exs_consW (ex_retW (ev_binW op_mod (ev_varW 4 _) (ev_varW 5 _)))
  exs_nilW)
noncomputable def T224 (Ω : Wd) (n : Nat)  : TS :=
  (sCons (sRet (tMeth Ω n (Str.ofString "fit") (tVar 0) (lCons (tBin dShl (tVar 4) (tBin dAndI (tVar 5) (tBin dSub (tAttr Ω (Str.ofString "bits_length") (tVar 0)) (tLit (.int 1))))) lNil)))
  sNil)
set_option maxHeartbeats 600000 in
theorem dv224 {n : Nat}  (L : Addr) (outer : List Env) (O : Addr → Prop) : Wr (EXs Ω n (fctx fd224 224 L outer O) (bodyOf fd224) (T224 Ω n )) :=
  (exs_consW (ex_retW (ev_methW rfl (ev_varW 0 _) (evs_consW (ev_binW op_shl (ev_varW 4 _) (ev_binW op_and (ev_varW 5 _) (ev_binW op_sub (ev_attrW (ev_varW 0 _)) (ev_intW _ _ _)))) evs_nilW)))
  exs_nilW)
noncomputable def T231 (Ω : Wd) (n : Nat)  : TS :=
  (sCons (sRet (tMeth Ω n (Str.ofString "fit") (tVar 0) (lCons (tBin dShr (tVar 4) (tBin dAndI (tVar 5) (tBin dSub (tAttr Ω (Str.ofString "bits_length") (tVar 0)) (tLit (.int 1))))) lNil)))
  sNil)
set_option maxHeartbeats 600000 in
theorem dv231 {n : Nat}  (L : Addr) (outer : List Env) (O : Addr → Prop) : Wr (EXs Ω n (fctx fd231 231 L outer O) (bodyOf fd231) (T231 Ω n )) :=
  (exs_consW (ex_retW (ev_methW rfl (ev_varW 0 _) (evs_consW (ev_binW op_shr (ev_varW 4 _) (ev_binW op_and (ev_varW 5 _) (ev_binW op_sub (ev_attrW (ev_varW 0 _)) (ev_intW _ _ _)))) evs_nilW)))
  exs_nilW)
noncomputable def T238 (Ω : Wd) (n : Nat)  : TS :=
  (sCons (sAssign 5 (tBin dMod (tVar 5) (tAttr Ω (Str.ofString "bits_length") (tVar 0))))
  (sCons (sRet (tBin dOrI (tBin dAndI (tBin dShl (tVar 4) (tVar 5)) (tAttr Ω (Str.ofString "mask") (tVar 0))) (tBin dShr (tVar 4) (tBin dSub (tAttr Ω (Str.ofString "bits_length") (tVar 0)) (tVar 5)))))
  sNil))
set_option maxHeartbeats 600000 in
theorem dv238 {n : Nat}  (L : Addr) (outer : List Env) (O : Addr → Prop) : Wr (EXs Ω n (fctx fd238 238 L outer O) (bodyOf fd238) (T238 Ω n )) :=
  (exs_consW (ex_assignW ⟨by decide, .inl (by with_unfolding_all rfl)⟩ (ev_binW op_mod (ev_varW 5 _) (ev_attrW (ev_varW 0 _))))
  (exs_consW (ex_retW (ev_binW op_or (ev_binW op_and (ev_binW op_shl (ev_varW 4 _) (ev_varW 5 _)) (ev_attrW (ev_varW 0 _))) (ev_binW op_shr (ev_varW 4 _) (ev_binW op_sub (ev_attrW (ev_varW 0 _)) (ev_varW 5 _)))))
  exs_nilW))
noncomputable def T245 (Ω : Wd) (n : Nat)  : TS :=
  (sCons (sAssign 5 (tBin dMod (tVar 5) (tAttr Ω (Str.ofString "bits_length") (tVar 0))))
  (sCons (sRet (tBin dOrI (tBin dShr (tVar 4) (tVar 5)) (tBin dAndI (tBin dShl (tVar 4) (tBin dSub (tAttr Ω (Str.ofString "bits_length") (tVar 0)) (tVar 5))) (tAttr Ω (Str.ofString "mask") (tVar 0)))))
  sNil))
set_option maxHeartbeats 600000 in
theorem dv245 {n : Nat}  (L : Addr) (outer : List Env) (O : Addr → Prop) : Wr (EXs Ω n (fctx fd245 245 L outer O) (bodyOf fd245) (T245 Ω n )) :=
  (exs_consW (ex_assignW ⟨by decide, .inl (by with_unfolding_all rfl)⟩ (ev_binW op_mod (ev_varW 5 _) (ev_attrW (ev_varW 0 _))))
  (exs_consW (ex_retW (ev_binW op_or (ev_binW op_shr (ev_varW 4 _) (ev_varW 5 _)) (ev_binW op_and (ev_binW op_shl (ev_varW 4 _) (ev_binW op_sub (ev_attrW (ev_varW 0 _)) (ev_varW 5 _))) (ev_attrW (ev_varW 0 _)))))
  exs_nilW))
noncomputable def B252 (Ω : Wd) (n : Nat)  : TS :=
  (sCons (sIf (tTest (tBin dNe (tBin dAndI (tVar 4) (tAttr Ω (Str.ofString "mask_sign") (tVar 0))) (tLit (.int 0))))
    (sCons (sFlow .brk)
  sNil)
    sNil)
  (sCons (sAug 5 dAddI (tLit (.int 1)))
  (sCons (sAssign 4 (tBin dShl (tVar 4) (tLit (.int 1))))
  sNil)))
noncomputable def T252 (Ω : Wd) (n : Nat)  : TS :=
  (sCons (sAssign 5 (tLit (.int 0)))
  (sCons (sForR 38 (tAttr Ω (Str.ofString "bits_length") (tVar 0)) (B252 Ω n ))
  (sCons (sRet (tVar 5))
  sNil)))
set_option maxHeartbeats 600000 in
theorem dv252 {n : Nat}  (L : Addr) (outer : List Env) (O : Addr → Prop) : Wr (EXs Ω n (fctx fd252 252 L outer O) (bodyOf fd252) (T252 Ω n )) :=
  (exs_consW (ex_assignW ⟨by decide, .inl (by with_unfolding_all rfl)⟩ (ev_intW _ _ _))
  (exs_consW (ex_forRW ⟨by decide, .inl (by with_unfolding_all rfl)⟩ (ev_attrW (ev_varW 0 _)) (fun O' => (exs_consW (ex_ifW (tv_cmpW op_ne (ev_binW op_and (ev_varW 4 _) (ev_attrW (ev_varW 0 _))) (ev_intW _ _ _))
    (exs_consW ex_breakW
  exs_nilW)
    exs_nilW)
  (exs_consW (ex_augW ⟨by decide, .inl (by with_unfolding_all rfl)⟩ op_iadd (ev_intW _ _ _))
  (exs_consW (ex_assignW ⟨by decide, .inl (by with_unfolding_all rfl)⟩ (ev_binW op_shl (ev_varW 4 _) (ev_intW _ _ _)))
  exs_nilW)))) (by with_unfolding_all rfl) (kb_range hΩ))
  (exs_consW (ex_retW (ev_varW 5 _))
  exs_nilW)))
noncomputable def B259 (Ω : Wd) (n : Nat)  : TS :=
  (sCons (sIf (tTest (tBin dNe (tBin dAndI (tVar 4) (tLit (.int 1))) (tLit (.int 0))))
    (sCons (sFlow .brk)
  sNil)
    sNil)
  (sCons (sAug 5 dAddI (tLit (.int 1)))
  (sCons (sAssign 4 (tBin dShr (tVar 4) (tLit (.int 1))))
  sNil)))
noncomputable def T259 (Ω : Wd) (n : Nat)  : TS :=
  (sCons (sAssign 5 (tLit (.int 0)))
  (sCons (sForR 38 (tAttr Ω (Str.ofString "bits_length") (tVar 0)) (B259 Ω n ))
  (sCons (sRet (tVar 5))
  sNil)))
set_option maxHeartbeats 600000 in
theorem dv259 {n : Nat}  (L : Addr) (outer : List Env) (O : Addr → Prop) : Wr (EXs Ω n (fctx fd259 259 L outer O) (bodyOf fd259) (T259 Ω n )) :=
  (exs_consW (ex_assignW ⟨by decide, .inl (by with_unfolding_all rfl)⟩ (ev_intW _ _ _))
  (exs_consW (ex_forRW ⟨by decide, .inl (by with_unfolding_all rfl)⟩ (ev_attrW (ev_varW 0 _)) (fun O' => (exs_consW (ex_ifW (tv_cmpW op_ne (ev_binW op_and (ev_varW 4 _) (ev_intW _ _ _)) (ev_intW _ _ _))
    (exs_consW ex_breakW
  exs_nilW)
    exs_nilW)
  (exs_consW (ex_augW ⟨by decide, .inl (by with_unfolding_all rfl)⟩ op_iadd (ev_intW _ _ _))
  (exs_consW (ex_assignW ⟨by decide, .inl (by with_unfolding_all rfl)⟩ (ev_binW op_shr (ev_varW 4 _) (ev_intW _ _ _)))
  exs_nilW)))) (by with_unfolding_all rfl) (kb_range hΩ))
  (exs_consW (ex_retW (ev_varW 5 _))
  exs_nilW)))
noncomputable def B266 (Ω : Wd) (n : Nat)  : TS :=
  (sCons (sIf (tTest (tBin dNe (tBin dAndI (tVar 4) (tLit (.int 1))) (tLit (.int 0))))
    (sCons (sAug 5 dAddI (tLit (.int 1)))
  sNil)
    sNil)
  (sCons (sAssign 4 (tBin dShr (tVar 4) (tLit (.int 1))))
  sNil))
noncomputable def T266 (Ω : Wd) (n : Nat)  : TS :=
  (sCons (sAssign 5 (tLit (.int 0)))
  (sCons (sForR 38 (tAttr Ω (Str.ofString "bits_length") (tVar 0)) (B266 Ω n ))
  (sCons (sRet (tVar 5))
  sNil)))
set_option maxHeartbeats 600000 in
theorem dv266 {n : Nat}  (L : Addr) (outer : List Env) (O : Addr → Prop) : Wr (EXs Ω n (fctx fd266 266 L outer O) (bodyOf fd266) (T266 Ω n )) :=
  (exs_consW (ex_assignW ⟨by decide, .inl (by with_unfolding_all rfl)⟩ (ev_intW _ _ _))
  (exs_consW (ex_forRW ⟨by decide, .inl (by with_unfolding_all rfl)⟩ (ev_attrW (ev_varW 0 _)) (fun O' => (exs_consW (ex_ifW (tv_cmpW op_ne (ev_binW op_and (ev_varW 4 _) (ev_intW _ _ _)) (ev_intW _ _ _))
    (exs_consW (ex_augW ⟨by decide, .inl (by with_unfolding_all rfl)⟩ op_iadd (ev_intW _ _ _))
  exs_nilW)
    exs_nilW)
  (exs_consW (ex_assignW ⟨by decide, .inl (by with_unfolding_all rfl)⟩ (ev_binW op_shr (ev_varW 4 _) (ev_intW _ _ _)))
  exs_nilW))) (by with_unfolding_all rfl) (kb_range hΩ))
  (exs_consW (ex_retW (ev_varW 5 _))
  exs_nilW)))
end
end Mine
end
section
open PySem PySem.W PyProof.Rows PySem.Calls
set_option Elab.async false
set_option linter.all false
set_option autoImplicit false
set_option maxRecDepth 100000
namespace Mine
section
variable {Ω : Wd} (hΩ : Ω.K = K0 Ω.w.params)
include hΩ
noncomputable def B400 (Ω : Wd) (n : Nat) (τ393 : FT) (τ324 : FT) (τ386 : FT) (τ379 : FT) (τ331 : FT) (τ317 : FT) (τ312 : FT) (τ298 : FT) (τ305 : FT) : TS :=
  (sCons (sAssign 21 (tBin dIdx (tCall τ305 lNil) (tBin dMod (tVar 6) (tLit (.int 15)))))
  (sCons (sAssign 33 (tBin dMod (tBin dAddI (tBin dFdiv (tVar 6) (tLit (.int 15))) (tVar 9)) (tLit (.int 6))))
  (sCons (sIf (tTest (tBin dIn (tVar 21) (tList (lCons (tLit (.str 10)) (lCons (tLit (.str 11)) (lCons (tLit (.str 12)) (lCons (tLit (.str 13)) (lCons (tLit (.str 14)) lNil))))))))
    (sCons (sAssign 33 (tBin dAddI (tBin dMulI (tBin dFdiv (tVar 33) (tLit (.int 2))) (tLit (.int 2))) (tLit (.int 1))))
  sNil)
    sNil)
  (sCons (sAssignTup [27, 10, 11] (tBin dIdx (tCall τ298 lNil) (tVar 33)))
  (sCons (sAssign 34 (tBin dIdx (tList (lCons (tIdxOwn 31 (tNeg (tLit (.int 2)))) (lCons (tCall τ312 (lCons (tBin dFdiv (tVar 6) (tLit (.int 15))) lNil)) (lCons (tNeg (tLit (.int 1))) lNil)))) (tBin dMod (tBin dAddI (tBin dFdiv (tVar 6) (tLit (.int 90))) (tVar 9)) (tLit (.int 3)))))
  (sCons (sAssign 22 (tCall τ331 (lCons (tIdxOwn 32 (tNeg (tLit (.int 1)))) (lCons (tVar 10) (lCons (tVar 11) lNil)))))
  (sCons (sAssign 23 (tCall τ331 (lCons (tCall τ317 (lCons (tVar 34) lNil)) (lCons (tVar 10) (lCons (tVar 11) lNil)))))
  (sCons (sAssign 4 (tMeth Ω n (Str.ofString "fit") (tVar 27) (lCons (tIdxOwn 31 (tNeg (tLit (.int 1)))) lNil)))
  (sCons (sAssign 5 (tMeth Ω n (Str.ofString "fit") (tVar 27) (lCons (tVar 34) lNil)))
  (sCons (sIf (tTest (tBin dNeT (tTup (lCons (tVar 4) (lCons (tVar 5) lNil))) (tTup (lCons (tCall τ324 (lCons (tVar 22) lNil)) (lCons (tCall τ324 (lCons (tVar 23) lNil)) lNil)))))
    (sCons (sRet (tLit (.bool false)))
  sNil)
    sNil)
  (sCons (sIf (tTest (tBin dEq (tVar 21) (tLit (.str 9))))
    (sCons (sAssign 4 (tIdxOwn 31 (tNeg (tLit (.int 1)))))
  (sCons (sAssign 22 (tIdxOwn 32 (tNeg (tLit (.int 1)))))
  sNil))
    sNil)
  (sCons (sAssign 35 (tCall τ379 (lCons (tVar 21) (lCons (tVar 22) (lCons (tVar 23) (lCons (tVar 10) (lCons (tVar 11) lNil)))))))
  (sCons (sAssign 36 (tCall τ386 (lCons (tVar 27) (lCons (tVar 21) (lCons (tVar 4) (lCons (tVar 5) lNil))))))
  (sCons (sIf (tTest (tBin dInO (tVar 35) (tList (lCons (tLit (.str 15)) (lCons (tLit (.str 16)) lNil)))))
    (sCons (sIf (tTest (tBin dNe (tVar 36) (tVar 35)))
    (sCons (sRet (tLit (.bool false)))
  sNil)
    sNil)
  (sCons (sFlow .cont)
  sNil))
    sNil)
  (sCons (sIf (tOr (tTest (tBin dNe (tVar 36) (tCall τ324 (lCons (tVar 35) lNil)))) (tTest (tIsBool (tVar 36))))
    (sCons (sRet (tLit (.bool false)))
  sNil)
    sNil)
  (sCons (sAssign 37 (tMethN Ω n (Str.ofString "into_bytearray") (tVar 27) (lCons (tVar 36) lNil)))
  (sCons (sIf (tOr (tTest (tBin dNe (tCall fListB (lCons (tVar 37) lNil)) (tSlice (tVar 35) oNone (oSome (tVar 10))))) (tTest (tBin dNe (tMeth Ω n (Str.ofString "from_bytearray") (tVar 27) (lCons (tVar 37) lNil)) (tVar 36))))
    (sCons (sRet (tLit (.bool false)))
  sNil)
    sNil)
  (sCons (sAppend 31 (tVar 36))
  (sCons (sAppend 32 (tVar 35))
  sNil)))))))))))))))))))
noncomputable def T400 (Ω : Wd) (n : Nat) (τ393 : FT) (τ324 : FT) (τ386 : FT) (τ379 : FT) (τ331 : FT) (τ317 : FT) (τ312 : FT) (τ298 : FT) (τ305 : FT) : TS :=
  (sCons (sAssign 30 (tBin dAddL (tSlice (tVar 29) oNone (oSome (tLit (.int 12)))) (tSlice (tList (lCons (tLit (.int 300)) (lCons (tNeg (tLit (.int 7))) (lCons (tLit (.int 5)) lNil)))) (oSome (tCall fLen (lCons (tVar 29) lNil))) oNone)))
  (sCons (sOwn [31, 32] 31 (lCons (tCall τ312 (lCons (tBin dIdx (tVar 30) (tLit (.int 0))) lNil)) (lCons (tCall τ312 (lCons (tBin dIdx (tVar 30) (tLit (.int 1))) lNil)) lNil)))
  (sCons (sOwn [31, 32] 32 (lCons (tCall τ317 (lCons (tIdxOwn 31 (tLit (.int 0))) lNil)) (lCons (tCall τ317 (lCons (tIdxOwn 31 (tLit (.int 1))) lNil)) lNil)))
  (sCons (sForE 9 6 (tSlice (tVar 30) (oSome (tLit (.int 2))) oNone) (B400 Ω n τ393 τ324 τ386 τ379 τ331 τ317 τ312 τ298 τ305))
  (sCons (sRet (tCall τ393 (lCons (tIdxOwn 31 (tNeg (tLit (.int 1)))) lNil)))
  sNil)))))
set_option maxHeartbeats 600000 in
theorem dv400 {n : Nat} {τ393 : FT} (h393 : Spec Ω n (.ref 393) τ393) {τ324 : FT} (h324 : Spec Ω n (.ref 324) τ324) {τ386 : FT} (h386 : Spec Ω n (.ref 386) τ386) {τ379 : FT} (h379 : Spec Ω n (.ref 379) τ379) {τ331 : FT} (h331 : Spec Ω n (.ref 331) τ331) {τ317 : FT} (h317 : Spec Ω n (.ref 317) τ317) {τ312 : FT} (h312 : Spec Ω n (.ref 312) τ312) {τ298 : FT} (h298 : Spec Ω n (.ref 298) τ298) {τ305 : FT} (h305 : Spec Ω n (.ref 305) τ305) (L : Addr) (outer : List Env) (O : Addr → Prop) : Wr (EXsN Ω n (fctx fd400 400 L outer O) (bodyOf fd400) (T400 Ω n τ393 τ324 τ386 τ379 τ331 τ317 τ312 τ298 τ305)) :=
  (exsN_consW (exN_ofW (ex_assignW ⟨by decide, .inl (by with_unfolding_all rfl)⟩ (ev_binW op_addL (ev_sliceW (ev_varW 29 _) evo_noneW (evo_someW (ev_intW _ _ _))) (ev_sliceW (ev_listW (evs_consW (ev_intW _ _ _) (evs_consW (ev_negW (ev_intW _ _ _)) (evs_consW (ev_intW _ _ _) evs_nilW)))) (evo_someW (ev_bcallW (by with_unfolding_all rfl) (kb_len hΩ) (by decide +kernel) (by decide +kernel) (by decide +kernel) b_len (evs_consW (ev_varW 29 _) evs_nilW))) evo_noneW))))
  (exsN_consW (exN_ofW (ex_ownW [31, 32] ⟨by decide, by with_unfolding_all rfl⟩ (allC (by with_unfolding_all rfl) (allC (by with_unfolding_all rfl) allN)) (evs_consW (ev_callW rfl (by with_unfolding_all rfl) (kg_law_small hΩ) (by decide +kernel) (kk_law_small hΩ) h312 (evs_consW (ev_idxW (ev_varW 30 _) (ev_intW _ _ _)) evs_nilW)) (evs_consW (ev_callW rfl (by with_unfolding_all rfl) (kg_law_small hΩ) (by decide +kernel) (kk_law_small hΩ) h312 (evs_consW (ev_idxW (ev_varW 30 _) (ev_intW _ _ _)) evs_nilW)) evs_nilW))))
  (exsN_consW (exN_ofW (ex_ownW [31, 32] ⟨by decide, by with_unfolding_all rfl⟩ (allC (by with_unfolding_all rfl) (allC (by with_unfolding_all rfl) allN)) (evs_consW (ev_callW rfl (by with_unfolding_all rfl) (kg_law_row hΩ) (by decide +kernel) (kk_law_row hΩ) h317 (evs_consW (ev_idxOwnW ⟨by decide, by with_unfolding_all rfl⟩ (ev_intW _ _ _)) evs_nilW)) (evs_consW (ev_callW rfl (by with_unfolding_all rfl) (kg_law_row hΩ) (by decide +kernel) (kk_law_row hΩ) h317 (evs_consW (ev_idxOwnW ⟨by decide, by with_unfolding_all rfl⟩ (ev_intW _ _ _)) evs_nilW)) evs_nilW))))
  (exsN_consW (exN_forEW (.cons 9 (.cons 6 .nil)) (allC ⟨by decide, .inl (by with_unfolding_all rfl)⟩ (allC ⟨by decide, .inl (by with_unfolding_all rfl)⟩ allN)) (ev_sliceW (ev_varW 30 _) (evo_someW (ev_intW _ _ _)) evo_noneW) (fun O' => (exsN_consW (exN_ofW (ex_assignW ⟨by decide, .inl (by with_unfolding_all rfl)⟩ (ev_idxW (ev_call0W rfl (by with_unfolding_all rfl) (kg_law_names hΩ) (by decide +kernel) (kk_law_names hΩ) h305) (ev_binW op_mod (ev_varW 6 _) (ev_intW _ _ _)))))
  (exsN_consW (exN_ofW (ex_assignW ⟨by decide, .inl (by with_unfolding_all rfl)⟩ (ev_binW op_mod (ev_binW op_addI (ev_binW op_fdiv (ev_varW 6 _) (ev_intW _ _ _)) (ev_varW 9 _)) (ev_intW _ _ _))))
  (exsN_consW (exN_ofW (ex_ifW (tv_cmpW op_in (ev_varW 21 _) (ev_listW (evs_consW (ev_strW 10 (by decide) _ _) (evs_consW (ev_strW 11 (by decide) _ _) (evs_consW (ev_strW 12 (by decide) _ _) (evs_consW (ev_strW 13 (by decide) _ _) (evs_consW (ev_strW 14 (by decide) _ _) evs_nilW)))))))
    (exs_consW (ex_assignW ⟨by decide, .inl (by with_unfolding_all rfl)⟩ (ev_binW op_addI (ev_binW op_mulI (ev_binW op_fdiv (ev_varW 33 _) (ev_intW _ _ _)) (ev_intW _ _ _)) (ev_intW _ _ _)))
  exs_nilW)
    exs_nilW))
  (exsN_consW (exN_ofW (ex_assignTupW (is := [27, 10, 11]) (.cons 27 (.cons 10 (.cons 11 .nil))) (allC ⟨by decide, .inl (by with_unfolding_all rfl)⟩ (allC ⟨by decide, .inl (by with_unfolding_all rfl)⟩ (allC ⟨by decide, .inl (by with_unfolding_all rfl)⟩ allN))) (ev_idxW (ev_call0W rfl (by with_unfolding_all rfl) (kg_law_kinds hΩ) (by decide +kernel) (kk_law_kinds hΩ) h298) (ev_varW 33 _))))
  (exsN_consW (exN_ofW (ex_assignW ⟨by decide, .inl (by with_unfolding_all rfl)⟩ (ev_idxW (ev_listW (evs_consW (ev_idxOwnW ⟨by decide, by with_unfolding_all rfl⟩ (ev_negW (ev_intW _ _ _))) (evs_consW (ev_callW rfl (by with_unfolding_all rfl) (kg_law_small hΩ) (by decide +kernel) (kk_law_small hΩ) h312 (evs_consW (ev_binW op_fdiv (ev_varW 6 _) (ev_intW _ _ _)) evs_nilW)) (evs_consW (ev_negW (ev_intW _ _ _)) evs_nilW)))) (ev_binW op_mod (ev_binW op_addI (ev_binW op_fdiv (ev_varW 6 _) (ev_intW _ _ _)) (ev_varW 9 _)) (ev_intW _ _ _)))))
  (exsN_consW (exN_ofW (ex_assignW ⟨by decide, .inl (by with_unfolding_all rfl)⟩ (ev_callW rfl (by with_unfolding_all rfl) (kg_law_grown hΩ) (by decide +kernel) (kk_law_grown hΩ) h331 (evs_consW (ev_idxOwnW ⟨by decide, by with_unfolding_all rfl⟩ (ev_negW (ev_intW _ _ _))) (evs_consW (ev_varW 10 _) (evs_consW (ev_varW 11 _) evs_nilW))))))
  (exsN_consW (exN_ofW (ex_assignW ⟨by decide, .inl (by with_unfolding_all rfl)⟩ (ev_callW rfl (by with_unfolding_all rfl) (kg_law_grown hΩ) (by decide +kernel) (kk_law_grown hΩ) h331 (evs_consW (ev_callW rfl (by with_unfolding_all rfl) (kg_law_row hΩ) (by decide +kernel) (kk_law_row hΩ) h317 (evs_consW (ev_varW 34 _) evs_nilW)) (evs_consW (ev_varW 10 _) (evs_consW (ev_varW 11 _) evs_nilW))))))
  (exsN_consW (exN_ofW (ex_assignW ⟨by decide, .inl (by with_unfolding_all rfl)⟩ (ev_methW rfl (ev_varW 27 _) (evs_consW (ev_idxOwnW ⟨by decide, by with_unfolding_all rfl⟩ (ev_negW (ev_intW _ _ _))) evs_nilW))))
  (exsN_consW (exN_ofW (ex_assignW ⟨by decide, .inl (by with_unfolding_all rfl)⟩ (ev_methW rfl (ev_varW 27 _) (evs_consW (ev_varW 34 _) evs_nilW))))
  (exsN_consW (exN_ofW (ex_ifW (tv_cmpW op_neT (ev_tupW (evs_consW (ev_varW 4 _) (evs_consW (ev_varW 5 _) evs_nilW))) (ev_tupW (evs_consW (ev_callW rfl (by with_unfolding_all rfl) (kg_law_number hΩ) (by decide +kernel) (kk_law_number hΩ) h324 (evs_consW (ev_varW 22 _) evs_nilW)) (evs_consW (ev_callW rfl (by with_unfolding_all rfl) (kg_law_number hΩ) (by decide +kernel) (kk_law_number hΩ) h324 (evs_consW (ev_varW 23 _) evs_nilW)) evs_nilW))))
    (exs_consW (ex_retW (ev_boolW _ _ _))
  exs_nilW)
    exs_nilW))
  (exsN_consW (exN_ofW (ex_ifW (tv_cmpW op_eq (ev_varW 21 _) (ev_strW 9 (by decide) _ _))
    (exs_consW (ex_assignW ⟨by decide, .inl (by with_unfolding_all rfl)⟩ (ev_idxOwnW ⟨by decide, by with_unfolding_all rfl⟩ (ev_negW (ev_intW _ _ _))))
  (exs_consW (ex_assignW ⟨by decide, .inl (by with_unfolding_all rfl)⟩ (ev_idxOwnW ⟨by decide, by with_unfolding_all rfl⟩ (ev_negW (ev_intW _ _ _))))
  exs_nilW))
    exs_nilW))
  (exsN_consW (exN_ofW (ex_assignW ⟨by decide, .inl (by with_unfolding_all rfl)⟩ (ev_callW rfl (by with_unfolding_all rfl) (kg_law_due hΩ) (by decide +kernel) (kk_law_due hΩ) h379 (evs_consW (ev_varW 21 _) (evs_consW (ev_varW 22 _) (evs_consW (ev_varW 23 _) (evs_consW (ev_varW 10 _) (evs_consW (ev_varW 11 _) evs_nilW))))))))
  (exsN_consW (exN_ofW (ex_assignW ⟨by decide, .inl (by with_unfolding_all rfl)⟩ (ev_callW rfl (by with_unfolding_all rfl) (kg_law_told hΩ) (by decide +kernel) (kk_law_told hΩ) h386 (evs_consW (ev_varW 27 _) (evs_consW (ev_varW 21 _) (evs_consW (ev_varW 4 _) (evs_consW (ev_varW 5 _) evs_nilW)))))))
  (exsN_consW (exN_ofW (ex_ifW (tv_cmpW op_inO (ev_varW 35 _) (ev_listW (evs_consW (ev_strW 15 (by decide) _ _) (evs_consW (ev_strW 16 (by decide) _ _) evs_nilW))))
    (exs_consW (ex_ifW (tv_cmpW op_ne (ev_varW 36 _) (ev_varW 35 _))
    (exs_consW (ex_retW (ev_boolW _ _ _))
  exs_nilW)
    exs_nilW)
  (exs_consW ex_continueW
  exs_nilW))
    exs_nilW))
  (exsN_consW (exN_ofW (ex_ifW (tv_orW (tv_cmpW op_ne (ev_varW 36 _) (ev_callW rfl (by with_unfolding_all rfl) (kg_law_number hΩ) (by decide +kernel) (kk_law_number hΩ) h324 (evs_consW (ev_varW 35 _) evs_nilW))) (tv_plainW (ev_isBoolW (ev_varW 36 _) (by with_unfolding_all rfl) (kb_isinstance hΩ) (by with_unfolding_all rfl) (kb_bool hΩ))))
    (exs_consW (ex_retW (ev_boolW _ _ _))
  exs_nilW)
    exs_nilW))
  (exsN_consW (exN_assignW ⟨by decide, .inl (by with_unfolding_all rfl)⟩ (evN_methW (ev_varW 27 _) (evs_consW (ev_varW 36 _) evs_nilW)))
  (exsN_ofW (exs_consW (ex_ifW (tv_orW (tv_cmpW op_ne (ev_tcallW (by with_unfolding_all rfl) (kb_list hΩ) (by decide +kernel) (by decide +kernel) (by decide +kernel) b_listB (evs_consW (ev_varW 37 _) evs_nilW)) (ev_sliceW (ev_varW 35 _) evo_noneW (evo_someW (ev_varW 10 _)))) (tv_cmpW op_ne (ev_methW rfl (ev_varW 27 _) (evs_consW (ev_varW 37 _) evs_nilW)) (ev_varW 36 _)))
    (exs_consW (ex_retW (ev_boolW _ _ _))
  exs_nilW)
    exs_nilW)
  (exs_consW (ex_appendW ⟨by decide, by with_unfolding_all rfl⟩ (ev_varW 36 _))
  (exs_consW (ex_appendW ⟨by decide, by with_unfolding_all rfl⟩ (ev_varW 35 _))
  exs_nilW))))))))))))))))))))) (by with_unfolding_all rfl) (kb_enumerate hΩ))
  (exsN_ofW (exs_consW (ex_retW (ev_callW rfl (by with_unfolding_all rfl) (kg_law_refused hΩ) (by decide +kernel) (kk_law_refused hΩ) h393 (evs_consW (ev_idxOwnW ⟨by decide, by with_unfolding_all rfl⟩ (ev_negW (ev_intW _ _ _))) evs_nilW)))
  exs_nilW))))))
end
end Mine
end
section
open PySem PySem.W PyProof.Rows PySem.Calls
set_option Elab.async false
set_option linter.all false
set_option autoImplicit false
set_option maxRecDepth 100000
namespace Mine
noncomputable def row (z : Int) : List Int := octs z 9
noncomputable def wrapv (k : Nat) (sg : Bool) (z : Int) : Int := if sg = true then (z + 2 ^ (8 * k - 1)) % 2 ^ (8 * k) - 2 ^ (8 * k - 1) else z % 2 ^ (8 * k)
noncomputable def lov (k : Nat) (sg : Bool) : Int := if sg = true then -(2 ^ (8 * k - 1)) else 0
noncomputable def hiv (k : Nat) (sg : Bool) : Int := if sg = true then 2 ^ (8 * k - 1) - 1 else 2 ^ (8 * k) - 1
noncomputable def clampv (k : Nat) (sg : Bool) (z : Int) : Int := if z < lov k sg then lov k sg else if hiv k sg < z then hiv k sg else z
noncomputable def Kd (k : Nat) : Prop := k = 1 ∨ k = 2 ∨ k = 8
noncomputable def R71 (z : Int) : Prop := -(2 ^ 71) ≤ z ∧ z < 2 ^ 71
noncomputable def InK (k : Nat) (sg : Bool) (z : Int) : Prop := lov k sg ≤ z ∧ z ≤ hiv k sg
theorem pow256_pos (n : Nat) : (0 : Int) < 256 ^ n := by rw [p256]; exact Int.natCast_pos.mpr (Nat.pow_pos (by decide))
theorem octs_length (x : Int) (n : Nat) : (octs x n).length = n := by simp [octs]
theorem octs_get (x : Int) {n i : Nat} (h : i < n) : (octs x n)[i]? = some (x / 256 ^ i % 256) := by simp [octs, h]
theorem octs_succ (x : Int) (n : Nat) : octs x (n + 1) = octs x n ++ [x / 256 ^ n % 256] := by simp [octs, List.range_succ]
theorem div_pow_succ (x : Int) (n : Nat) : x / 256 ^ (n + 1) = x / 256 ^ n / 256 := by
  rw [Int.pow_succ, Int.ediv_ediv_of_nonneg (Int.le_of_lt (pow256_pos n))]
theorem div_pow_succ' (x : Int) (n : Nat) : x / 256 ^ (n + 1) = x / 256 / 256 ^ n := by
  rw [Int.pow_succ, Int.mul_comm, Int.ediv_ediv_of_nonneg (by decide)]
theorem octs_cons (x : Int) (n : Nat) : octs x (n + 1) = x % 256 :: octs (x / 256) n := by
  refine List.ext_getElem? fun i => ?_
  cases i with
  | zero => rw [octs_get x (Nat.succ_pos n)]; simp
  | succ i =>
    rw [List.getElem?_cons_succ]
    by_cases h : i < n
    · rw [octs_get _ h, octs_get x (Nat.succ_lt_succ h), div_pow_succ']
    · rw [List.getElem?_eq_none (by rw [octs_length]; omega), List.getElem?_eq_none (by rw [octs_length]; omega)]
theorem octs_take (x : Int) {k n : Nat} (h : k ≤ n) : (octs x n).take k = octs x k := by
  refine List.ext_getElem? fun i => ?_
  rw [List.getElem?_take]
  split
  · rename_i hi; rw [octs_get x hi, octs_get x (by omega)]
  · rename_i hi; rw [List.getElem?_eq_none (by rw [octs_length]; omega)]
theorem leN_octs (x : Int) (n : Nat) : leN (octs x n) = x % 256 ^ n := by
  induction n generalizing x with
  | zero => show (0 : Int) = _; rw [Int.pow_zero]; omega
  | succ n ih =>
    rw [octs_cons]
    show x % 256 + 256 * leN (octs (x / 256) n) = _
    rw [ih, Int.pow_succ]
    have h1 : x = 256 * (x / 256) + x % 256 := (Int.mul_ediv_add_emod x 256).symm
    generalize hq : x / 256 = q at *
    generalize hr : x % 256 = r at *
    have hp := pow256_pos n
    have h2 : q = 256 ^ n * (q / 256 ^ n) + q % 256 ^ n := (Int.mul_ediv_add_emod q (256 ^ n)).symm
    generalize q / 256 ^ n = u at *
    have h3 : 0 ≤ q % 256 ^ n := Int.emod_nonneg _ (Int.ne_of_gt hp)
    have h4 : q % 256 ^ n < 256 ^ n := Int.emod_lt_of_pos _ hp
    generalize q % 256 ^ n = v at *
    generalize (256 : Int) ^ n = P at *
    have : x = r + 256 * v + P * 256 * u := by rw [h1, h2, Int.mul_add, Int.mul_comm P 256, Int.mul_assoc]; omega
    rw [this, Int.add_mul_emod_self_left, Int.emod_eq_of_lt] <;> omega
theorem octs_congr {x y : Int} {n : Nat} (h : x % 256 ^ n = y % 256 ^ n) : octs x n = octs y n := by
  refine List.ext_getElem? fun i => ?_
  by_cases hi : i < n
  · rw [octs_get x hi, octs_get y hi]
    obtain ⟨m, rfl⟩ : ∃ m, n = i + 1 + m := ⟨n - (i + 1), by omega⟩
    have hp := pow256_pos i
    have key : ∀ z : Int, z / 256 ^ i % 256 = z % 256 ^ (i + 1 + m) / 256 ^ i % 256 := fun z => by
      have h1 : z = 256 ^ (i + 1 + m) * (z / 256 ^ (i + 1 + m)) + z % 256 ^ (i + 1 + m) := (Int.mul_ediv_add_emod z _).symm
      generalize z / 256 ^ (i + 1 + m) = u at h1
      generalize z % 256 ^ (i + 1 + m) = v at *
      rw [Int.pow_add, Int.pow_succ] at h1
      have h2 : z = v + 256 ^ i * (256 * (256 ^ m * u)) := by rw [h1]; simp only [Int.mul_assoc]; omega
      rw [h2, Int.add_mul_ediv_left _ _ (Int.ne_of_gt hp), Int.add_mul_emod_self_left]
    rw [key x, key y, h]
  · rw [List.getElem?_eq_none (by rw [octs_length]; omega), List.getElem?_eq_none (by rw [octs_length]; omega)]
theorem octs_inj {x y : Int} {n : Nat} (h : octs x n = octs y n) : x % 256 ^ n = y % 256 ^ n := by rw [← leN_octs, ← leN_octs, h]
theorem row_inj {x y : Int} (hx : R71 x) (hy : R71 y) : row x = row y ↔ x = y := by
  refine ⟨fun h => ?_, fun h => h ▸ rfl⟩
  have := octs_inj h
  unfold R71 at hx hy
  omega
theorem octs_zero (n : Nat) : octs 0 n = List.replicate n 0 := by
  refine List.ext_getElem? fun i => ?_
  by_cases h : i < n
  · rw [octs_get 0 h, List.getElem?_replicate, if_pos h]; simp
  · rw [List.getElem?_eq_none (by rw [octs_length]; omega), List.getElem?_eq_none (by simp; omega)]
theorem octs_neg1 (n : Nat) : octs (-1) n = List.replicate n 255 := by
  refine List.ext_getElem? fun i => ?_
  by_cases h : i < n
  · rw [octs_get _ h, List.getElem?_replicate, if_pos h, (Int.ediv_eq_iff_of_pos (pow256_pos i)).mpr (show -1 * 256 ^ i ≤ -1 ∧ -1 < -1 * 256 ^ i + 256 ^ i from by have := pow256_pos i; omega)]; rfl
  · rw [List.getElem?_eq_none (by rw [octs_length]; omega), List.getElem?_eq_none (by simp; omega)]
theorem octs_append (x : Int) (k m : Nat) : octs x (k + m) = octs x k ++ octs (x / 256 ^ k) m := by
  induction m with
  | zero => simp [octs]
  | succ m ih =>
    rw [← Nat.add_assoc, octs_succ, ih, octs_succ, List.append_assoc, Int.pow_add, Int.ediv_ediv_of_nonneg (Int.le_of_lt (pow256_pos k))]
end Mine
end
section
open PySem PySem.W PyProof.Rows PySem.Calls
set_option Elab.async false
set_option linter.all false
set_option autoImplicit false
set_option maxRecDepth 100000
namespace Mine
structure Sp (Ω : Wd) (n : Nat) (f : Addr) (τ : FT) : Prop where
  h : Spec Ω n (.ref f) τ
theorem AOk.mono {c : Ctx} {m n : Nat} {A : Around} (h : m ≤ n) (a : AOk c n A) : AOk c m A := ⟨a.hd, a.frames, by have := a.depth; omega, by have := a.units; omega⟩
theorem Spec.mono {Ω : Wd} {m n : Nat} {f : Value} {τ τ' : FT} (h : Spec Ω m f τ) (hn : m ≤ n) (ht : ∀ ds Q E, τ' ds Q E → τ ds Q E) : Spec Ω n f τ' :=
  fun c A W ρ Q E s ds vs a hf I r q => h c A W ρ Q E s ds vs (a.mono hn) hf I r (ht _ _ _ q)
theorem sp_fn {Ω : Wd} {n : Nat} {f : Addr} {fd : FuncData} {is : List Nat} {body : List Stmt} {t : TS} {τ : FT} (K : FnK Ω f fd is body) (hb : ∀ L outer O, Wr (EXs Ω n (fctx fd f L outer O) body t))
    (ht : ∀ ds Q E, τ ds Q E → fSpec is t ds Q E) : Sp Ω (n + 1) f τ := ⟨Spec.mono (spec_fn K fun L o O => (hb L o O).h) (Nat.le_refl _) ht⟩
theorem Sp.mono {Ω : Wd} {m n : Nat} {f : Addr} {τ : FT} (h : Sp Ω m f τ) (hn : m ≤ n) : Sp Ω n f τ := ⟨Spec.mono h.h hn fun _ _ _ q => q⟩
theorem compT_all {x : Nat} {te : TE} {ρ : Rho} {f : D → D} {Q : List D → Prop} : ∀ (ds acc : List D), (∀ d ∈ ds, ∀ Q' : D → Prop, Q' (f d) → te (upd ρ x (.val d)) Q' (fun _ => False)) → Q (acc ++ ds.map f) → compT x bYes te ρ ds acc Q
  | [], acc, _, h => by rw [List.map_nil, List.append_nil] at h; exact h
  | d :: ds, acc, hs, h => by
    show te (upd ρ x (.val d)) (fun r => compT x bYes te ρ ds (acc ++ [r]) Q) _
    refine hs d (.head _) _ (compT_all ds _ (fun e he => hs e (.tail _ he)) ?_)
    rw [List.append_assoc]; exact h
noncomputable def rng (k : Nat) : List D := il ((List.range k).map Int.ofNat)
theorem compT_range {x : Nat} {te : TE} {ρ : Rho} {f : Nat → D} {Q : List D → Prop} {k : Nat} {acc : List D} (hs : ∀ i, i < k → ∀ Q' : D → Prop, Q' (f i) → te (upd ρ x (.val (.int (i : Int)))) Q' (fun _ => False)) (h : Q (acc ++ (List.range k).map f)) :
    compT x bYes te ρ (il ((List.range k).map Int.ofNat)) acc Q := by
  refine compT_all (f := fun d => match d with | .int i => f i.toNat | _ => d) _ _ (fun d hd Q' hq => ?_) ?_
  · unfold il at hd
    rw [List.map_map] at hd
    obtain ⟨i, hi, rfl⟩ := List.mem_map.mp hd
    exact hs i (List.mem_range.mp hi) Q' (by simpa using hq)
  · have e : (il ((List.range k).map Int.ofNat)).map (fun d => match d with | .int i => f i.toNat | _ => d) = (List.range k).map f := by
      unfold il
      rw [List.map_map, List.map_map]
      exact List.map_congr_left fun i _ => by simp
    rw [e]; exact h
theorem loopT_list {bind : Nat → D → Rho → Rho} {body : TS} {Q : Flw → Rho → Prop} {E : Nat → Prop} (ds : List D) (J : Nat → Rho → Prop)
    (step : ∀ i d ρ, ds[i]? = some d → J i ρ → ∀ K : Flw → Rho → Prop, (∀ ρ', J (i + 1) ρ' → K .next ρ') → (∀ ρ', J (i + 1) ρ' → K .cont ρ') → (∀ ρ', Q .next ρ' → K .brk ρ') → (∀ d ρ', Q (.ret d) ρ' → K (.ret d) ρ') → body (bind i d ρ) K (fun _ => False))
    (hend : ∀ ρ, J ds.length ρ → Q .next ρ) : ∀ (m i : Nat) (ρ : Rho), i + m = ds.length → J i ρ → loopT bind body i (ds.drop i) ρ Q E
  | 0, i, ρ, hm, hJ => by
    have : i = ds.length := by omega
    subst this
    rw [List.drop_length]
    exact hend ρ hJ
  | m + 1, i, ρ, hm, hJ => by
    have hlt : i < ds.length := by omega
    rw [List.drop_eq_getElem_cons hlt]
    refine step i _ ρ (List.getElem?_eq_getElem hlt) hJ _ (fun ρ' h => ?_) (fun ρ' h => ?_) (fun ρ' h => h) (fun d ρ' h => h)
    · exact loopT_list ds J step hend m (i + 1) ρ' (by omega) h
    · exact loopT_list ds J step hend m (i + 1) ρ' (by omega) h
theorem loopT_range {x : Nat} {body : TS} {Q : Flw → Rho → Prop} {E : Nat → Prop} {k : Nat} {ρ : Rho} (J : Nat → Rho → Prop) (h0 : J 0 ρ)
    (step : ∀ i ρ, i < k → J i ρ → ∀ K : Flw → Rho → Prop, (∀ ρ', J (i + 1) ρ' → K .next ρ') → (∀ ρ', J (i + 1) ρ' → K .cont ρ') → (∀ ρ', Q .next ρ' → K .brk ρ') → (∀ d ρ', Q (.ret d) ρ' → K (.ret d) ρ') → body (upd ρ x (.val (.int (i : Int)))) K (fun _ => False))
    (hend : ∀ ρ, J k ρ → Q .next ρ) : loopT (bName x) body 0 (il ((List.range k).map Int.ofNat)) ρ Q E := by
  have hlen : (il ((List.range k).map Int.ofNat)).length = k := by simp [il]
  have := loopT_list (bind := bName x) (body := body) (Q := Q) (E := E) (il ((List.range k).map Int.ofNat)) J (fun i d ρ hd hJ K a b c e => ?_) (fun ρ h => hend ρ (hlen ▸ h)) k 0 ρ (by rw [hlen]; omega) h0
  · rwa [List.drop_zero] at this
  · have hi : i < k := by
      have := (List.getElem?_eq_some_iff.mp hd).1
      rwa [hlen] at this
    obtain rfl := il_get hd
    exact step i ρ hi hJ K a b c e
theorem il_at {ns : List Int} {i : Nat} {o : Int} (h : ns[i]? = some o) : (il ns)[i]? = some (.int o) := by unfold il; rw [List.getElem?_map, h]; rfl
theorem il_len (ns : List Int) : (il ns).length = ns.length := List.length_map ..
theorem il_app (a b : List Int) : il (a ++ b) = il a ++ il b := List.map_append
theorem seq_pos {k : Int} {n i : Nat} (e : k = (i : Int)) (h : i < n) : seqIndex? k n = some i := by
  subst e
  unfold seqIndex?
  have h1 : ¬ ((i : Int) < 0) := by omega
  simp [h, h1]
theorem idx_il {Q : D → Prop} {E : Nat → Prop} {ns : List Int} {k : Int} (i : Nat) (o : Int) (e : k = (i : Int)) (h : ns[i]? = some o) (hl : ns.length < 2 ^ 62) (hq : Q (.int o)) : dIdx (.list (il ns)) (.int k) Q E := by
  have hi := (List.getElem?_eq_some_iff.mp h).1
  exact ⟨k, rfl, by omega, by omega, .inl ⟨il ns, i, .int o, rfl, seq_pos e (by rw [il_len]; exact hi), il_at h, hq⟩⟩
theorem dEq_ii {Q : D → Prop} {E : Nat → Prop} {i j : Int} : dEq (.int i) (.int j) Q E = Q (.bool (i == j)) := by simp [dEq]
theorem dEq_ss {Q : D → Prop} {E : Nat → Prop} {i j : Nat} : dEq (.str i) (.str j) Q E = Q (.bool (i == j)) := by simp [dEq]
theorem il_inj {x y : List Int} (h : il x = il y) : x = y := by
  unfold il at h
  exact List.map_inj_right (fun a b q => by cases q; rfl) |>.mp h
theorem dEq_ll {Q : D → Prop} {E : Nat → Prop} {x y : List Int} : dEq (.list (il x)) (.list (il y)) Q E = Q (.bool (decide (x = y))) := by
  refine propext ⟨fun h => ?_, fun h => .inr (.inr ⟨x, y, rfl, rfl, h⟩)⟩
  rcases h with ⟨_, _, q, _⟩ | ⟨_, _, q, _⟩ | ⟨a, b, h1, h2, h⟩
  · cases q
  · cases q
  · cases il_inj (D.list.inj h1); cases il_inj (D.list.inj h2); exact h
theorem dNe_ii {Q : D → Prop} {E : Nat → Prop} {i j : Int} : dNe (.int i) (.int j) Q E = Q (.bool (i != j)) := by simp [dNe]
theorem dNe_ss {Q : D → Prop} {E : Nat → Prop} {i j : Nat} : dNe (.str i) (.str j) Q E = Q (.bool (i != j)) := by simp [dNe]
theorem dNe_bb {Q : D → Prop} {E : Nat → Prop} {i j : Bool} : dNe (.bool i) (.bool j) Q E = Q (.bool (i != j)) := by simp [dNe]
theorem dNe_ll {Q : D → Prop} {E : Nat → Prop} {x y : List Int} : dNe (.list (il x)) (.list (il y)) Q E = Q (.bool (!decide (x = y))) := by
  refine propext ⟨fun h => ?_, fun h => .inr (.inr (.inr ⟨x, y, rfl, rfl, h⟩))⟩
  rcases h with ⟨_, _, q, _⟩ | ⟨_, _, q, _⟩ | ⟨_, _, q, _⟩ | ⟨a, b, h1, h2, h⟩
  · cases q
  · cases q
  · cases q
  · cases il_inj (D.list.inj h1); cases il_inj (D.list.inj h2); exact h
theorem row_len (z : Int) : (row z).length = 9 := octs_length _ _
theorem row_get (z : Int) {i : Nat} (h : i < 9) : (row z)[i]? = some (z / 256 ^ i % 256) := octs_get z h
theorem idx_row {Q : D → Prop} {E : Nat → Prop} {z k : Int} (i : Nat) (e : k = (i : Int)) (hi : i < 9) (hq : Q (.int (z / 256 ^ i % 256))) : dIdx (.list (il (row z))) (.int k) Q E :=
  idx_il i _ e (row_get z hi) (by rw [row_len]; decide) hq
theorem mulOk {i j : Int} (h1 : -(2 ^ 200) < i) (h2 : i < 2 ^ 200) (h3 : -(2 ^ 200) < j) (h4 : j < 2 ^ 200) : IntMulOk i j :=
  mulOk_of_bits (m := 200) (n := 200) (bits_fit (k := 1) (by omega)) (bits_fit (k := 1) (by omega)) (by decide)
theorem fd_p (x : Int) {y : Int} (h : 0 ≤ y) : x.fdiv y = x / y := Int.fdiv_eq_ediv_of_nonneg _ h
theorem fm_p (x : Int) {y : Int} (h : 0 ≤ y) : x.fmod y = x % y := Int.fmod_eq_emod_of_nonneg _ h
theorem s_as {i : Nat} {t : TE} {ts : TS} {ρ : Rho} {Q : Flw → Rho → Prop} {E : Nat → Prop} {v : D} (ht : ∀ K : D → Prop, K v → t ρ K E) (h : ts (upd ρ i (.val v)) Q E) : sCons (sAssign i t) ts ρ Q E := ht _ h
theorem s_ret {t : TE} {ts : TS} {ρ : Rho} {Q : Flw → Rho → Prop} {E : Nat → Prop} {v : D} (ht : ∀ K : D → Prop, K v → t ρ K E) (h : Q (.ret v) ρ) : sCons (sRet t) ts ρ Q E := ht _ h
theorem s_ifF {t : TB} {x ts : TS} {ρ : Rho} {Q : Flw → Rho → Prop} {E : Nat → Prop} (ht : ∀ K : Bool → Prop, K false → t ρ K E) (h : ts ρ Q E) : sCons (sIf t x sNil) ts ρ Q E := ht _ h
theorem s_ifA {t : TB} {i : Nat} {a : TE} {ts : TS} {ρ : Rho} {Q : Flw → Rho → Prop} {E : Nat → Prop} {v : D} (ht : ∀ K : Bool → Prop, K true → t ρ K E) (ha : ∀ K : D → Prop, K v → a ρ K E) (h : ts (upd ρ i (.val v)) Q E) : sCons (sIf t (sCons (sAssign i a) sNil) sNil) ts ρ Q E := ht _ (ha _ h)
theorem s_ifAA {t : TB} {i j : Nat} {a b : TE} {ts : TS} {ρ : Rho} {Q : Flw → Rho → Prop} {E : Nat → Prop} {v w : D} (ht : ∀ K : Bool → Prop, K true → t ρ K E) (ha : ∀ K : D → Prop, K v → a ρ K E) (hb : ∀ K : D → Prop, K w → b (upd ρ i (.val v)) K E) (h : ts (upd (upd ρ i (.val v)) j (.val w)) Q E) :
    sCons (sIf t (sCons (sAssign i a) (sCons (sAssign j b) sNil)) sNil) ts ρ Q E := ht _ (ha _ (hb _ h))
theorem s_str {nm i j : Nat} {r : TE} {ts : TS} {ρ : Rho} {Q : Flw → Rho → Prop} {E : Nat → Prop} (h : ρ j = some (.val (.str nm))) (hy : nm = i → r ρ (fun d => Q (.ret d) ρ) E) (hn : nm ≠ i → ts ρ Q E) :
    sCons (sIf (tTest (tBin dEq (tVar j) (tLit (.str i)))) (sCons (sRet r) sNil) sNil) ts ρ Q E := by
  have ht : ∀ K : Bool → Prop, K (nm == i) → tTest (tBin dEq (tVar j) (tLit (.str i))) ρ K E := fun K hK => by
    exact ⟨_, h, Or.inr (Or.inl ⟨nm, i, rfl, rfl, _, rfl, hK⟩)⟩
  by_cases e : nm = i
  · rw [show (nm == i) = true from beq_iff_eq.mpr e] at ht; exact ht _ (hy e)
  · rw [show (nm == i) = false from beq_eq_false_iff_ne.mpr e] at ht; exact ht _ (hn e)
theorem s_try {tb ts : TS} {cs : List (Nat × Nat)} {ρ : Rho} {Q : Flw → Rho → Prop} {E : Nat → Prop} (h : tb ρ (fun f ρ' => match f with | .next => ts ρ' Q E | f => Q f ρ') (fun k => k < 2 ∧ ∃ i, cs.lookup k = some i ∧ Q (.ret (.str i)) rho0)) : sCons (sTry tb cs) ts ρ Q E := h
theorem s_tup {is : List Nat} {t : TE} {ts : TS} {ρ : Rho} {Q : Flw → Rho → Prop} {E : Nat → Prop} {ds : List D} (ht : ∀ K : D → Prop, K (.tup ds) → t ρ K E) (hl : ds.length = is.length) (h : ts (updL ρ is ds) Q E) : sCons (sAssignTup is t) ts ρ Q E := ht _ ⟨ds, rfl, hl, h⟩
theorem s_app {i : Nat} {t : TE} {ts : TS} {ρ : Rho} {Q : Flw → Rho → Prop} {E : Nat → Prop} {d : D} {ds : List D} (h : ρ i = some (.own ds)) (hl : ds.length ≤ 4096) (ht : ∀ K : D → Prop, K d → t ρ K E) (hq : ts (upd ρ i (.own (ds ++ [d]))) Q E) : sCons (sAppend i t) ts ρ Q E := ⟨ds, h, hl, ht _ hq⟩
theorem s_ifNC {t u : TB} {r : TE} {ts : TS} {ρ : Rho} {Q : Flw → Rho → Prop} {E : Nat → Prop} (ht : ∀ K : Bool → Prop, K true → t ρ K E) (hu : ∀ K : Bool → Prop, K false → u ρ K E) (h : Q .cont ρ) :
    sCons (sIf t (sCons (sIf u (sCons (sRet r) sNil) sNil) (sCons (sFlow .cont) sNil)) sNil) ts ρ Q E := ht _ (hu _ h)
theorem t_orF {t u : TB} {ρ : Rho} {E : Nat → Prop} (ht : ∀ K : Bool → Prop, K false → t ρ K E) (hu : ∀ K : Bool → Prop, K false → u ρ K E) : ∀ K : Bool → Prop, K false → tOr t u ρ K E := fun K hK => ht _ (hu _ hK)
theorem t_str' {nm i j : Nat} {b : Bool} {ρ : Rho} {E : Nat → Prop} (h : ρ j = some (.val (.str nm))) (hb : (nm == i) = b) : ∀ K : Bool → Prop, K b → tTest (tBin dEq (tVar j) (tLit (.str i))) ρ K E := fun K hK => ⟨_, h, Or.inr (Or.inl ⟨nm, i, rfl, rfl, _, rfl, hb ▸ hK⟩)⟩
theorem tm2 {Ω : Wd} {n i j l : Nat} {name : Str} {a : Addr} {τ : FT} {d e : D} {ρ : Rho} {K : D → Prop} {E : Nat → Prop} (hi : ρ i = some (.val (.ref a))) (hj : ρ j = some (.val d)) (hl : ρ l = some (.val e)) (hm : MethOk Ω n a name τ) (h : τ [.ref a, d, e] K E) :
    tMeth Ω n name (tVar i) (lCons (tVar j) (lCons (tVar l) lNil)) ρ K E := ⟨_, hi, a, _, rfl, hm, _, hj, _, hl, h⟩
theorem tm1 {Ω : Wd} {n i j : Nat} {name : Str} {a : Addr} {τ : FT} {d : D} {ρ : Rho} {K : D → Prop} {E : Nat → Prop} (hi : ρ i = some (.val (.ref a))) (hj : ρ j = some (.val d)) (hm : MethOk Ω n a name τ) (h : τ [.ref a, d] K E) :
    tMeth Ω n name (tVar i) (lCons (tVar j) lNil) ρ K E := ⟨_, hi, a, _, rfl, hm, _, hj, h⟩
theorem s_ifAy {t : TB} {i : Nat} {a : TE} {y ts : TS} {ρ : Rho} {Q : Flw → Rho → Prop} {E : Nat → Prop} {v : D} (ht : ∀ K : Bool → Prop, K true → t ρ K E) (ha : ∀ K : D → Prop, K v → a ρ K E) (h : ts (upd ρ i (.val v)) Q E) : sCons (sIf t (sCons (sAssign i a) sNil) y) ts ρ Q E := ht _ (ha _ h)
theorem s_ifE {t : TB} {x y ts : TS} {ρ : Rho} {Q : Flw → Rho → Prop} {E : Nat → Prop} (ht : ∀ K : Bool → Prop, K false → t ρ K E) (h : y ρ (fun f ρ' => match f with | .next => ts ρ' Q E | f => Q f ρ') E) : sCons (sIf t x y) ts ρ Q E := ht _ h
end Mine
end
section
open PySem PySem.W PyProof.Rows PySem.Calls
set_option Elab.async false
set_option linter.all false
set_option autoImplicit false
set_option maxRecDepth 100000
namespace Mine
noncomputable def small (z : Int) : Int := (z + 2 ^ 70) % 2 ^ 71 - 2 ^ 70
theorem small_range (z : Int) : -(2 ^ 70) ≤ small z ∧ small z < 2 ^ 70 := by unfold small; omega
noncomputable def g312 : FT := fun ds Q _ => ∃ z, ds = [.int z] ∧ Q (.int (small z))
noncomputable def g317 : FT := fun ds Q _ => ∃ z, ds = [.int z] ∧ R71 z ∧ Q (.list (il (row z)))
noncomputable def g324 : FT := fun ds Q _ => ∃ z, ds = [.list (il (row z))] ∧ R71 z ∧ Q (.int z)
theorem quot_bd {z : Int} {j : Nat} (hz : R71 z) : -(2 ^ 71) ≤ z / 256 ^ j ∧ z / 256 ^ j < 2 ^ 71 := by
  have hp := pow256_pos j
  unfold R71 at hz
  constructor
  · rw [Int.le_ediv_iff_mul_le hp]
    have : -(2 ^ 71) * (256 : Int) ^ j ≤ -(2 ^ 71) * 1 := Int.mul_le_mul_of_nonpos_left (by decide) (by omega)
    omega
  · rw [Int.ediv_lt_iff_lt_mul hp]
    have : (2 ^ 71) * 1 ≤ (2 ^ 71) * (256 : Int) ^ j := Int.mul_le_mul_of_nonneg_left (by omega) (by decide)
    omega
theorem p256l : ∀ i : Nat, i < 9 → ((256 : Int) ^ i).natAbs.log2 < 9000 := by decide +kernel
theorem i_le6 {i : Nat} (h : i < 9) : (i : Int) ≤ 1000000 := by omega
theorem eight {i : Nat} (h : i < 9) : (8 : Int) - (i : Int) = ((8 - i : Nat) : Int) := by omega
theorem n9 {i : Nat} (h : i < 9) : 9 - i = (8 - i) + 1 := by omega
theorem mulQ {q : Int} (h : -(2 ^ 71) ≤ q ∧ q < 2 ^ 71) : IntMulOk 256 q := mulOk (by decide) (by decide) (by omega) (by omega)
theorem top9 {z : Int} (h : R71 z) (hz : 128 ≤ z / 256 ^ 8 % 256) : -1 = z / 256 ^ 9 := by unfold R71 at h; omega
theorem top9' {z : Int} (h : R71 z) (hz : ¬ 128 ≤ z / 256 ^ 8 % 256) : 0 = z / 256 ^ 9 := by unfold R71 at h; omega
section
variable {Ω : Wd} (hΩ : Ω.K = K0 Ω.w.params)
include hΩ
theorem sp312 : Sp Ω 1 312 g312 := sp_fn (fk312 hΩ) (dv312 hΩ) fun ds Q E hds => by
  obtain ⟨z, e, hq⟩ := hds
  subst e
  refine ⟨rfl, ?_⟩
  simp only [T312, sCons, sNil, sRet, sAssign, sIf, sAssert, sAug, sFlow, tIte, tTest, tAnd, tOr, tBin, tNeg, tVar, tLit, tCall, lCons, lNil, tTup, tList, bindR, upd, rho0, dSub, dAddI, D.int.injEq, D.bool.injEq, D.list.injEq, D.str.injEq, D.ref.injEq, D.tup.injEq, exists_eq_left', exists_eq_left, exists_and_left, true_and, and_true, reduceIte, Nat.reduceEqDiff, Option.some.injEq, Sl.val.injEq, Flw.ret.injEq, List.cons.injEq, dEq_ii, dEq_ss, dEq_ll, dNe_ii, dNe_ss, dNe_bb, dNe_ll, Sl.own.injEq, dMod, dPow]
  refine ⟨by decide, by decide, by decide, by decide, by decide, by decide, fun q => absurd q (by decide), fun _ => ⟨by decide, by decide, by decide, ?_⟩⟩
  rw [Int.fmod_eq_emod_of_nonneg _ (by decide)]
  exact hq
theorem sp317 : Sp Ω 1 317 g317 := sp_fn (fk317 hΩ) (dv317 hΩ) fun ds Q E hds => by
  obtain ⟨z, e, hz, hq⟩ := hds
  subst e
  refine ⟨rfl, ?_⟩
  simp only [T317, sCons, sNil, sRet, sAssign, sIf, sAssert, sAug, sFlow, tIte, tTest, tAnd, tOr, tBin, tNeg, tVar, tLit, tCall, lCons, lNil, tTup, tList, bindR, upd, rho0, dSub, dAddI, D.int.injEq, D.bool.injEq, D.list.injEq, D.str.injEq, D.ref.injEq, D.tup.injEq, exists_eq_left', exists_eq_left, exists_and_left, true_and, and_true, reduceIte, Nat.reduceEqDiff, Option.some.injEq, Sl.val.injEq, Flw.ret.injEq, List.cons.injEq, dEq_ii, dEq_ss, dEq_ll, dNe_ii, dNe_ss, dNe_bb, dNe_ll, Sl.own.injEq, tComp, rRange]
  refine ⟨9, rfl, by decide, by decide, compT_range (f := fun i => .int (z / 256 ^ i % 256)) (fun i hi Q' hq' => ?_) ?_⟩
  · have e1 : ((i : Int).toNat) = i := Int.toNat_natCast i
    simp only [sCons, sNil, sRet, sAssign, sIf, sAssert, sAug, sFlow, tIte, tTest, tAnd, tOr, tBin, tNeg, tVar, tLit, tCall, lCons, lNil, tTup, tList, bindR, upd, rho0, dSub, dAddI, D.int.injEq, D.bool.injEq, D.list.injEq, D.str.injEq, D.ref.injEq, D.tup.injEq, exists_eq_left', exists_eq_left, exists_and_left, true_and, and_true, reduceIte, Nat.reduceEqDiff, Option.some.injEq, Sl.val.injEq, Flw.ret.injEq, List.cons.injEq, dEq_ii, dEq_ss, dEq_ll, dNe_ii, dNe_ss, dNe_bb, dNe_ll, Sl.own.injEq, restr, dMod, dFdiv, dPow, List.mem_singleton, e1]
    have hp := pow256_pos i
    have hl : ((256 : Int) ^ i).natAbs.log2 < 9000 := p256l i hi
    refine ⟨Int.natCast_nonneg _, i_le6 hi, by decide, hl, fun q => absurd q (Int.ne_of_gt hp), fun _ => ⟨fun q => absurd q (by decide), fun _ => ?_⟩⟩
    rw [fd_p _ (Int.le_of_lt hp), fm_p _ (by decide)]
    exact hq'
  · rw [List.nil_append]
    have e : (List.range 9).map (fun i => D.int (z / 256 ^ i % 256)) = il (row z) := by unfold il row octs; rw [List.map_map]; rfl
    rw [e]
    exact hq
theorem sp324 : Sp Ω 1 324 g324 := sp_fn (fk324 hΩ) (dv324 hΩ) fun ds Q E hds => by
  obtain ⟨z, e, hz, hq⟩ := hds
  subst e
  refine ⟨rfl, ?_⟩
  simp only [T324, sCons, sNil, sRet, sAssign, sIf, sAssert, sAug, sFlow, tIte, tTest, tAnd, tOr, tBin, tNeg, tVar, tLit, tCall, lCons, lNil, tTup, tList, bindR, upd, rho0, dSub, dAddI, D.int.injEq, D.bool.injEq, D.list.injEq, D.str.injEq, D.ref.injEq, D.tup.injEq, exists_eq_left', exists_eq_left, exists_and_left, true_and, and_true, reduceIte, Nat.reduceEqDiff, Option.some.injEq, Sl.val.injEq, Flw.ret.injEq, List.cons.injEq, dEq_ii, dEq_ss, dEq_ll, dNe_ii, dNe_ss, dNe_bb, dNe_ll, Sl.own.injEq, dGe, sForR]
  refine idx_row 8 rfl (by decide) ⟨_, rfl, ?_⟩
  have key : ∀ v : Int, v = z / 256 ^ 9 → loopT (bName 9) B324 0 (il ((List.range 9).map Int.ofNat)) (upd (upd rho0 7 (.val (.list (il (row z))))) 8 (.val (.int v)))
      (fun f ρ' => match f with
        | .next => ∃ d, ρ' 8 = some (.val d) ∧ Q d
        | f => ∃ d, f = Flw.ret d ∧ Q d) E := fun v hv => by
    refine loopT_range (fun i ρ => ρ 7 = some (.val (.list (il (row z)))) ∧ ρ 8 = some (.val (.int (z / 256 ^ (9 - i))))) ⟨rfl, by rw [hv]; rfl⟩ (fun i ρ hi ⟨h7, h8⟩ K k1 _ _ _ => ?_) (fun ρ ⟨h7, h8⟩ => ⟨_, h8, by simpa using hq⟩)
    simp only [B324, sCons, sNil, sRet, sAssign, sIf, sAssert, sAug, sFlow, tIte, tTest, tAnd, tOr, tBin, tNeg, tVar, tLit, tCall, lCons, lNil, tTup, tList, bindR, upd, rho0, dSub, dAddI, D.int.injEq, D.bool.injEq, D.list.injEq, D.str.injEq, D.ref.injEq, D.tup.injEq, exists_eq_left', exists_eq_left, exists_and_left, true_and, and_true, reduceIte, Nat.reduceEqDiff, Option.some.injEq, Sl.val.injEq, Flw.ret.injEq, List.cons.injEq, dEq_ii, dEq_ss, dEq_ll, dNe_ii, dNe_ss, dNe_bb, dNe_ll, Sl.own.injEq, dMulI, h7, h8]
    refine ⟨mulQ (quot_bd (j := 9 - i) hz), idx_row (8 - i) (eight hi) (Nat.lt_succ_of_le (Nat.sub_le _ _)) ⟨_, rfl, k1 _ ⟨h7, ?_⟩⟩⟩
    · simp only [sCons, sNil, sRet, sAssign, sIf, sAssert, sAug, sFlow, tIte, tTest, tAnd, tOr, tBin, tNeg, tVar, tLit, tCall, lCons, lNil, tTup, tList, bindR, upd, rho0, dSub, dAddI, D.int.injEq, D.bool.injEq, D.list.injEq, D.str.injEq, D.ref.injEq, D.tup.injEq, exists_eq_left', exists_eq_left, exists_and_left, true_and, and_true, reduceIte, Nat.reduceEqDiff, Option.some.injEq, Sl.val.injEq, Flw.ret.injEq, List.cons.injEq, dEq_ii, dEq_ss, dEq_ll, dNe_ii, dNe_ss, dNe_bb, dNe_ll, Sl.own.injEq]
      rw [n9 hi, Nat.add_sub_add_right 8 1 i, div_pow_succ]
      congr 3
      exact Int.mul_ediv_add_emod _ _
  split
  · rename_i h
    exact ⟨9, rfl, by decide, key _ (top9 hz (of_decide_eq_true h))⟩
  · rename_i h
    exact ⟨9, rfl, by decide, key _ (top9' hz (fun q => h (decide_eq_true q)))⟩
end
end Mine
end
section
open PySem PySem.W PyProof.Rows PySem.Calls
set_option Elab.async false
set_option linter.all false
set_option autoImplicit false
set_option maxRecDepth 100000
namespace Mine
theorem kd_pow {k : Nat} (hk : Kd k) : ∃ G : Int, 0 < G ∧ G ≤ 2 ^ 56 ∧ (256 : Int) ^ (k - 1) = G ∧ (2 : Int) ^ (8 * k - 1) = 128 * G ∧ (2 : Int) ^ (8 * k) = 256 * G ∧ (256 : Int) ^ k = 256 * G := by
  rcases hk with rfl | rfl | rfl
  · exact ⟨1, by decide⟩
  · exact ⟨256, by decide⟩
  · exact ⟨2 ^ 56, by decide⟩
theorem wrap_mod {k : Nat} {sg : Bool} (hk : Kd k) (z : Int) : wrapv k sg z % 256 ^ k = z % 256 ^ k := by
  obtain ⟨G, h0, h1, e1, e2, e3, e4⟩ := kd_pow hk
  unfold wrapv
  rw [e2, e3, e4]
  cases sg with
  | true => rw [if_pos rfl, Int.sub_emod, Int.emod_emod, ← Int.sub_emod, Int.add_sub_cancel]
  | false => rw [if_neg (by decide), Int.emod_emod]
theorem wrap_in {k : Nat} {sg : Bool} (hk : Kd k) (z : Int) : InK k sg (wrapv k sg z) := by
  obtain ⟨G, h0, h1, e1, e2, e3, e4⟩ := kd_pow hk
  unfold wrapv InK lov hiv
  rw [e2, e3]
  have hM : 0 < 256 * G := by omega
  cases sg with
  | true =>
    have a := Int.emod_nonneg (z + 128 * G) (Int.ne_of_gt hM)
    have b := Int.emod_lt_of_pos (z + 128 * G) hM
    rw [if_pos rfl, if_pos rfl, if_pos rfl]
    generalize (z + 128 * G) % (256 * G) = v at a b
    omega
  | false =>
    have a := Int.emod_nonneg z (Int.ne_of_gt hM)
    have b := Int.emod_lt_of_pos z hM
    rw [if_neg (by decide), if_neg (by decide), if_neg (by decide)]
    exact ⟨a, Int.le_sub_one_of_lt b⟩
theorem wrap_id {k : Nat} {sg : Bool} (hk : Kd k) {z : Int} (h : InK k sg z) : wrapv k sg z = z := by
  obtain ⟨G, h0, h1, e1, e2, e3, e4⟩ := kd_pow hk
  unfold InK lov hiv at h
  unfold wrapv
  rw [e2, e3] at h ⊢
  cases sg with
  | true =>
    rw [if_pos rfl, if_pos rfl] at h
    rw [if_pos rfl, Int.emod_eq_of_lt (by omega) (by omega), Int.add_sub_cancel]
  | false =>
    rw [if_neg (by decide), if_neg (by decide)] at h
    rw [if_neg (by decide), Int.emod_eq_of_lt h.1 (Int.lt_of_le_sub_one h.2)]
theorem ink_bd {k : Nat} {sg : Bool} (hk : Kd k) {z : Int} (h : InK k sg z) : -(2 ^ 63) ≤ z ∧ z < 2 ^ 64 := by
  obtain ⟨G, h0, h1, e1, e2, e3, e4⟩ := kd_pow hk
  unfold InK lov hiv at h
  rw [e2, e3] at h
  cases sg with
  | true => rw [if_pos rfl, if_pos rfl] at h; omega
  | false => rw [if_neg (by decide), if_neg (by decide)] at h; omega
theorem ink_r71 {k : Nat} {sg : Bool} (hk : Kd k) {z : Int} (h : InK k sg z) : R71 z := by
  have := ink_bd hk h
  unfold R71
  omega
theorem wrap_div {k : Nat} {sg : Bool} (hk : Kd k) (z : Int) : wrapv k sg z / 256 ^ k = if (sg && decide (128 ≤ z / 256 ^ (k - 1) % 256)) = true then -1 else 0 := by
  obtain ⟨G, h0, h1, e1, e2, e3, e4⟩ := kd_pow hk
  have hM : 0 < 256 * G := by omega
  unfold wrapv
  rw [e1, e2, e3, e4]
  cases sg with
  | false =>
    rw [if_neg (by decide), Bool.false_and, if_neg (by decide)]
    exact Int.ediv_eq_zero_of_lt (Int.emod_nonneg z (Int.ne_of_gt hM)) (Int.emod_lt_of_pos z hM)
  | true =>
    rw [if_pos rfl, Bool.true_and]
    have f1 := Int.mul_ediv_add_emod z G
    have f2 := Int.emod_nonneg z (Int.ne_of_gt h0)
    have f3 := Int.emod_lt_of_pos z h0
    have f4 := Int.mul_ediv_add_emod (z / G) 256
    have f5 : 0 ≤ z / G % 256 ∧ z / G % 256 < 256 := by omega
    generalize z / G / 256 = q at f4
    generalize hd : z / G % 256 = d at *
    generalize z / G = u at *
    generalize z % G = r at *
    subst f4
    have e : z + 128 * G = (128 * G + G * d + r) + 256 * G * q := by rw [← f1]; grind
    have g0 : 0 ≤ G * d := Int.mul_nonneg (Int.le_of_lt h0) f5.1
    rw [e, Int.add_mul_emod_self_left]
    by_cases hlt : d < 128
    · rw [decide_eq_false (by omega), if_neg (by decide)]
      have g1 : G * d ≤ G * 127 := Int.mul_le_mul_of_nonneg_left (by omega) (Int.le_of_lt h0)
      rw [Int.emod_eq_of_lt (by omega) (by omega)]
      exact Int.ediv_eq_zero_of_lt (by omega) (by omega)
    · rw [decide_eq_true (by omega), if_pos rfl]
      have g1 : G * 128 ≤ G * d := Int.mul_le_mul_of_nonneg_left (by omega) (Int.le_of_lt h0)
      have g2 : G * d ≤ G * 255 := Int.mul_le_mul_of_nonneg_left (by omega) (Int.le_of_lt h0)
      have e' : 128 * G + G * d + r = (G * d + r - 128 * G) + 256 * G * 1 := by omega
      rw [e', Int.add_mul_emod_self_left, Int.emod_eq_of_lt (by omega) (by omega), Int.ediv_eq_iff_of_pos hM]
      omega
theorem row_wrap {k : Nat} {sg : Bool} (hk : Kd k) (z : Int) : row (wrapv k sg z) = octs z k ++ List.replicate (9 - k) (if (sg && decide (128 ≤ z / 256 ^ (k - 1) % 256)) = true then 255 else 0) := by
  have h9 : 9 = k + (9 - k) := by rcases hk with rfl | rfl | rfl <;> rfl
  unfold row
  conv => lhs; rw [h9]
  rw [octs_append, octs_congr (wrap_mod hk z), wrap_div hk]
  congr 1
  split
  · exact octs_neg1 _
  · exact octs_zero _
theorem lo_le_hi {k : Nat} {sg : Bool} (hk : Kd k) : lov k sg ≤ 0 ∧ 0 ≤ hiv k sg := by
  unfold lov hiv; rcases hk with rfl | rfl | rfl <;> cases sg <;> decide
theorem clamp_in {k : Nat} {sg : Bool} (hk : Kd k) (z : Int) : InK k sg (clampv k sg z) := by
  have := lo_le_hi (sg := sg) hk
  unfold clampv InK
  generalize lov k sg = a at *
  generalize hiv k sg = b at *
  by_cases h1 : z < a
  · rw [if_pos h1]; omega
  · rw [if_neg h1]
    by_cases h2 : b < z
    · rw [if_pos h2]; omega
    · rw [if_neg h2]; omega
theorem clamp_id {k : Nat} {sg : Bool} {z : Int} (h : InK k sg z) : clampv k sg z = z := by
  unfold InK at h
  unfold clampv
  rw [if_neg (by omega), if_neg (by omega)]
theorem clamp_lo {k : Nat} {sg : Bool} (hk : Kd k) {z : Int} (h : ¬ InK k sg z) (hn : z < 0) : clampv k sg z = lov k sg := by
  have := (lo_le_hi (sg := sg) hk).2
  unfold clampv
  rw [if_pos]
  refine Int.not_le.mp fun q => h ⟨q, by omega⟩
theorem clamp_hi {k : Nat} {sg : Bool} (hk : Kd k) {z : Int} (h : ¬ InK k sg z) (hn : 0 ≤ z) : clampv k sg z = hiv k sg := by
  unfold InK at h
  have := (lo_le_hi (sg := sg) hk).1
  unfold clampv
  rw [if_neg (by omega), if_pos (by omega)]
theorem lo_octs {k : Nat} {sg : Bool} (hk : Kd k) : List.replicate (k - 1) 0 ++ [if sg = true then 128 else 0] = octs (lov k sg) k := by
  rcases hk with rfl | rfl | rfl <;> cases sg <;> decide
theorem hi_octs {k : Nat} {sg : Bool} (hk : Kd k) : List.replicate (k - 1) 255 ++ [if sg = true then 127 else 255] = octs (hiv k sg) k := by
  rcases hk with rfl | rfl | rfl <;> cases sg <;> decide
theorem in_iff {k : Nat} {sg : Bool} (hk : Kd k) {z : Int} (hz : R71 z) : row (wrapv k sg z) = row z ↔ InK k sg z := by
  refine ⟨fun h => ?_, fun h => by rw [wrap_id hk h]⟩
  have := (row_inj (ink_r71 hk (wrap_in hk z)) hz).mp h
  exact this ▸ wrap_in hk z
theorem neg_oct (z : Int) (i : Nat) : 255 - z / 256 ^ i % 256 = (-1 - z) / 256 ^ i % 256 := by
  have hp := pow256_pos i
  have h : (-1 - z) / 256 ^ i = -1 - z / 256 ^ i := by
    rw [Int.ediv_eq_iff_of_pos hp]
    have h1 := Int.mul_ediv_add_emod z (256 ^ i)
    have h2 := Int.emod_nonneg z (Int.ne_of_gt hp)
    have h3 := Int.emod_lt_of_pos z hp
    generalize z / 256 ^ i = q at *
    have e : (-1 - q) * 256 ^ i = -256 ^ i - 256 ^ i * q := by rw [Int.sub_mul, Int.mul_comm q]; omega
    rw [e]
    omega
  rw [h]; omega
end Mine
end
section
open PySem PySem.W PyProof.Rows PySem.Calls
set_option Elab.async false
set_option linter.all false
set_option autoImplicit false
set_option maxRecDepth 100000
namespace Mine
theorem pick_take {ns : List Int} {k : Nat} : pickD (il ns) none (some (k : Int)) = il (ns.take k) := by
  unfold pickD kms_lo kms_hi
  have : ¬ ((k : Int) < 0) := by omega
  simp only [if_neg this, List.drop_zero, Int.toNat_natCast, Nat.sub_zero, il_len]
  unfold il
  rw [← List.map_take]
  congr 1
  by_cases h : k ≤ ns.length
  · rw [Nat.min_eq_left h]
  · rw [Nat.min_eq_right (by omega), List.take_of_length_le (by omega), List.take_of_length_le (by omega)]
theorem pick_drop {ns : List Int} {k : Nat} : pickD (il ns) (some (k : Int)) none = il (ns.drop k) := by
  unfold pickD kms_lo kms_hi
  have : ¬ ((k : Int) < 0) := by omega
  simp only [if_neg this, Int.toNat_natCast, il_len]
  unfold il
  rw [← List.map_drop, ← List.map_take]
  congr 1
  by_cases h : k ≤ ns.length
  · rw [Nat.min_eq_left h, List.take_of_length_le (by simp)]
  · rw [Nat.min_eq_right (by omega), List.drop_of_length_le (by omega), List.drop_of_length_le (by omega), List.take_nil]
theorem rep_il (j : Nat) (o : Int) : (List.replicate j [D.int o]).flatten = il (List.replicate j o) := by
  unfold il
  rw [List.map_replicate]
  induction j with
  | zero => rfl
  | succ j ih => rw [List.replicate_succ, List.flatten_cons, ih, List.replicate_succ]; rfl
theorem mulL_one {Q : D → Prop} {E : Nat → Prop} {o : Int} {j : Int} (n : Nat) (e : j = (n : Int)) (h : n ≤ 256) (hq : Q (.list (il (List.replicate n o)))) : dMulL (.list [.int o]) (.int j) Q E := by
  subst e
  refine ⟨[.int o], _, rfl, rfl, by omega, by omega, ?_, ?_⟩
  · rw [Int.toNat_natCast]; simpa using h
  · rw [Int.toNat_natCast, rep_il]; exact hq
theorem addL_il {Q : D → Prop} {E : Nat → Prop} {a b : List Int} (h : a.length + b.length ≤ 4096) (hq : Q (.list (il (a ++ b)))) : dAddL (.list (il a)) (.list (il b)) Q E :=
  ⟨_, _, rfl, rfl, by rw [il_len, il_len, sizeLine_eq]; omega, by rw [← il_app]; exact hq⟩
noncomputable def g331 : FT := fun ds Q _ => ∃ r z k sg, ds = [.list (il r), .int (k : Nat), .bool sg] ∧ Kd k ∧ k ≤ r.length ∧ r.length ≤ 100 ∧ r.take k = octs z k ∧ Q (.list (il (row (wrapv k sg z))))
noncomputable def g338 : FT := fun ds Q _ => ∃ z k sg, ds = [.list (il (row z)), .int (k : Nat), .bool sg] ∧ Kd k ∧ R71 z ∧ Q (.list (il (row (clampv k sg z))))
noncomputable def g345 : FT := fun ds Q _ => ∃ x y c, ds = [.list (il (row x)), .list (il (row y)), .int c] ∧ Q (.list (il (row (x + y + c))))
noncomputable def g350 : FT := fun ds Q _ => ∃ x, ds = [.list (il (row x))] ∧ Q (.list (il (row (-x))))
theorem lo_in {k : Nat} {sg : Bool} (hk : Kd k) : InK k sg (lov k sg) := by
  unfold InK lov hiv
  rcases hk with rfl | rfl | rfl <;> cases sg <;> decide
theorem hi_in {k : Nat} {sg : Bool} (hk : Kd k) : InK k sg (hiv k sg) := by
  unfold InK lov hiv
  rcases hk with rfl | rfl | rfl <;> cases sg <;> decide
theorem sz_ok {n : Nat} (h : n ≤ 4096) : n ≤ sizeLine := by rw [sizeLine_eq]; omega
theorem k_le9 {k : Nat} (h : 1 ≤ k ∧ k ≤ 8) : k ≤ 9 := Nat.le_trans h.2 (by decide)
theorem le64 {k : Nat} (h : 1 ≤ k ∧ k ≤ 8) : 8 * k ≤ 64 := Nat.mul_le_mul_left 8 h.2
theorem row_ge {k : Nat} {z : Int} (h : 1 ≤ k ∧ k ≤ 8) : k ≤ (row z).length := by rw [row_len]; exact k_le9 h
theorem row_le {z : Int} : (row z).length ≤ 100 := by rw [row_len]; decide
theorem row_sz {z : Int} : (il (row z)).length ≤ sizeLine := sz_ok (by rw [il_len, row_len]; decide)
theorem octs_ge {k : Nat} {z : Int} : k ≤ (octs z k).length := Nat.le_of_eq (octs_length _ _).symm
theorem octs_le {k : Nat} {z : Int} (h : 1 ≤ k ∧ k ≤ 8) : (octs z k).length ≤ 100 := by rw [octs_length]; exact Nat.le_trans h.2 (by decide)
theorem mul8 {k : Nat} (h : 1 ≤ k ∧ k ≤ 8) : IntMulOk 8 (k : Int) := mulOk (by decide) (by decide) (by omega) (by omega)
theorem kd_le {k : Nat} (hk : Kd k) : 1 ≤ k ∧ k ≤ 8 := by rcases hk with rfl | rfl | rfl <;> decide
theorem ink_u {k : Nat} {x : Int} (h : InK k false x) : 0 ≤ x ∧ x < 2 ^ (8 * k) := by
  unfold InK lov hiv at h
  rw [if_neg (by decide), if_neg (by decide)] at h
  exact ⟨h.1, Int.lt_of_le_sub_one h.2⟩
theorem ink_s {k : Nat} {x : Int} (h : InK k true x) : -2 ^ (8 * k - 1) ≤ x ∧ x < 2 ^ (8 * k - 1) := by
  unfold InK lov hiv at h
  rw [if_pos rfl, if_pos rfl] at h
  exact ⟨h.1, Int.lt_of_le_sub_one h.2⟩
theorem carry_eq (A B T : Int) : T - A - B + A % 256 + B % 256 = T + 256 * (-(A / 256) - B / 256) := by omega
theorem carry_div (A B T : Int) : (T - A - B + A % 256 + B % 256) / 256 = T / 256 - A / 256 - B / 256 := by
  rw [carry_eq, Int.add_mul_ediv_left _ _ (by decide)]; omega
theorem carry_mod (A B T : Int) : (T - A - B + A % 256 + B % 256) % 256 = T % 256 := by
  rw [carry_eq, Int.add_mul_emod_self_left]
theorem nine {k : Nat} (h : 1 ≤ k ∧ k ≤ 8) : (9 : Int) - (k : Int) = ((9 - k : Nat) : Int) := by omega
theorem kpred {k : Nat} (h : 1 ≤ k ∧ k ≤ 8) : (k : Int) - 1 = ((k - 1 : Nat) : Int) := by omega
theorem kpl {k : Nat} (h : 1 ≤ k ∧ k ≤ 8) : k - 1 < k := Nat.sub_lt h.1 (by decide)
theorem len9 {k : Nat} {z o : Int} (h : 1 ≤ k ∧ k ≤ 8) : (octs z k).length + (List.replicate (9 - k) o).length ≤ 4096 := by
  rw [octs_length, List.length_replicate]; omega
theorem len11 {k : Nat} {z o : Int} (h : 1 ≤ k ∧ k ≤ 8) : (List.replicate (k - 1) z ++ [o]).length = k := by
  rw [List.length_append, List.length_replicate]; exact Nat.sub_add_cancel h.1
theorem len10 {k : Nat} {z o : Int} (h : 1 ≤ k ∧ k ≤ 8) : (List.replicate (k - 1) z).length + [o].length ≤ 4096 := by
  rw [← List.length_append, len11 h]; exact Nat.le_trans h.2 (by decide)
theorem top8 {z : Int} (h : R71 z) : (z < 0 → decide (128 ≤ z / 256 ^ 8 % 256) = true) ∧ (0 ≤ z → decide (128 ≤ z / 256 ^ 8 % 256) = false) := by
  unfold R71 at h
  exact ⟨fun hn => decide_eq_true (by omega), fun hn => decide_eq_false (by omega)⟩
section
variable {Ω : Wd} (hΩ : Ω.K = K0 Ω.w.params)
include hΩ
theorem sp331 : Sp Ω 1 331 g331 := sp_fn (fk331 hΩ) (dv331 hΩ) fun ds Q E hds => by
  obtain ⟨r, z, k, sg, e, hk, hkr, hr, ht, hq⟩ := hds
  subst e
  refine ⟨rfl, ?_⟩
  simp only [T331, sCons, sNil, sRet, sAssign, sIf, sAssert, sAug, sFlow, tIte, tTest, tAnd, tOr, tBin, tNeg, tVar, tLit, tCall, lCons, lNil, tTup, tList, bindR, upd, rho0, dSub, dAddI, D.int.injEq, D.bool.injEq, D.list.injEq, D.str.injEq, D.ref.injEq, D.tup.injEq, exists_eq_left', exists_eq_left, exists_and_left, true_and, and_true, reduceIte, Nat.reduceEqDiff, Option.some.injEq, Sl.val.injEq, Flw.ret.injEq, List.cons.injEq, dEq_ii, dEq_ss, dEq_ll, dNe_ii, dNe_ss, dNe_bb, dNe_ll, Sl.own.injEq, dGe, tSlice, oNone, oSome]
  have hk9 := kd_le hk
  refine ⟨sz_ok (by rw [il_len]; exact Nat.le_trans hr (by decide)), ?_⟩
  rw [pick_take, ht]
  have fin : ∀ o : Int, o = (if (sg && decide (128 ≤ z / 256 ^ (k - 1) % 256)) = true then 255 else 0) → dMulL (.list [.int o]) (.int (9 - (k : Int))) (fun b => dAddL (.list (il (octs z k))) b (fun d => Q d) E) E := fun o ho => by
    refine mulL_one (9 - k) (nine hk9) (Nat.le_trans (Nat.sub_le _ _) (by decide)) (addL_il (len9 hk9) ?_)
    rw [ho, ← row_wrap hk]
    exact hq
  cases sg with
  | false =>
    simp only [Bool.false_eq_true, if_false]
    exact ⟨sz_ok (by decide), fin 0 (by simp)⟩
  | true =>
    simp only [if_true]
    refine idx_il (k - 1) (z / 256 ^ (k - 1) % 256) (kpred hk9) ?_ (Nat.lt_of_le_of_lt hr (by decide)) ?_
    · have : (r.take k)[k - 1]? = some (z / 256 ^ (k - 1) % 256) := by rw [ht]; exact octs_get z (kpl hk9)
      rwa [List.getElem?_take, if_pos (kpl hk9)] at this
    · refine ⟨_, rfl, ?_⟩
      by_cases h : 128 ≤ z / 256 ^ (k - 1) % 256
      · simp only [decide_eq_true h, if_true]
        exact ⟨sz_ok (by decide), fin 255 (by simp [h])⟩
      · simp only [decide_eq_false h, Bool.false_eq_true, if_false]
        exact ⟨sz_ok (by decide), fin 0 (by simp [h])⟩
theorem sp345 : Sp Ω 1 345 g345 := sp_fn (fk345 hΩ) (dv345 hΩ) fun ds Q E hds => by
  obtain ⟨x, y, cc, e, hq⟩ := hds
  subst e
  refine ⟨rfl, ?_⟩
  simp only [T345, sCons, sNil, sRet, sAssign, sIf, sAssert, sAug, sFlow, tIte, tTest, tAnd, tOr, tBin, tNeg, tVar, tLit, tCall, lCons, lNil, tTup, tList, bindR, upd, rho0, dSub, dAddI, D.int.injEq, D.bool.injEq, D.list.injEq, D.str.injEq, D.ref.injEq, D.tup.injEq, exists_eq_left', exists_eq_left, exists_and_left, true_and, and_true, reduceIte, Nat.reduceEqDiff, Option.some.injEq, Sl.val.injEq, Flw.ret.injEq, List.cons.injEq, dEq_ii, dEq_ss, dEq_ll, dNe_ii, dNe_ss, dNe_bb, dNe_ll, Sl.own.injEq, sOwn, sForR, sRetOwn]
  refine ⟨fun j es h => ?_, by decide, 9, rfl, by decide, ?_⟩
  · revert h
    (repeat' split) <;> intro h <;> cases h
  refine loopT_range (fun i ρ => ρ 7 = some (.val (.list (il (row x)))) ∧ ρ 12 = some (.val (.list (il (row y)))) ∧ ρ 13 = some (.val (.int ((x + y + cc) / 256 ^ i - x / 256 ^ i - y / 256 ^ i))) ∧ ρ 14 = some (.own (il (octs (x + y + cc) i)))) ⟨rfl, rfl, ?_, rfl⟩ (fun i ρ hi ⟨h7, h12, h13, h14⟩ K k1 _ _ _ => ?_) (fun ρ ⟨h7, h12, h13, h14⟩ => ⟨_, h14, hq⟩)
  · show some (Sl.val (D.int cc)) = _
    rw [Int.pow_zero, Int.ediv_one, Int.ediv_one, Int.ediv_one]
    congr 3
    omega
  · simp only [B345, sCons, sNil, sRet, sAssign, sIf, sAssert, sAug, sFlow, tIte, tTest, tAnd, tOr, tBin, tNeg, tVar, tLit, tCall, lCons, lNil, tTup, tList, bindR, upd, rho0, dSub, dAddI, D.int.injEq, D.bool.injEq, D.list.injEq, D.str.injEq, D.ref.injEq, D.tup.injEq, exists_eq_left', exists_eq_left, exists_and_left, true_and, and_true, reduceIte, Nat.reduceEqDiff, Option.some.injEq, Sl.val.injEq, Flw.ret.injEq, List.cons.injEq, dEq_ii, dEq_ss, dEq_ll, dNe_ii, dNe_ss, dNe_bb, dNe_ll, Sl.own.injEq, dMod, dFdiv, sAppend, h7, h12, h13, h14]
    refine idx_row i rfl hi ⟨_, rfl, idx_row i rfl hi ⟨_, rfl, by rw [il_len, octs_length]; omega, fun q => absurd q (by decide), fun _ => ⟨by decide, fun q => absurd q (by decide), fun _ => ?_⟩⟩⟩
    rw [fd_p _ (by decide), fm_p _ (by decide)]
    refine k1 _ ⟨h7, h12, ?_, ?_⟩
    · simp only [sCons, sNil, sRet, sAssign, sIf, sAssert, sAug, sFlow, tIte, tTest, tAnd, tOr, tBin, tNeg, tVar, tLit, tCall, lCons, lNil, tTup, tList, bindR, upd, rho0, dSub, dAddI, D.int.injEq, D.bool.injEq, D.list.injEq, D.str.injEq, D.ref.injEq, D.tup.injEq, exists_eq_left', exists_eq_left, exists_and_left, true_and, and_true, reduceIte, Nat.reduceEqDiff, Option.some.injEq, Sl.val.injEq, Flw.ret.injEq, List.cons.injEq, dEq_ii, dEq_ss, dEq_ll, dNe_ii, dNe_ss, dNe_bb, dNe_ll, Sl.own.injEq]
      congr 3
      rw [div_pow_succ, div_pow_succ, div_pow_succ]
      exact carry_div _ _ _
    · simp only [sCons, sNil, sRet, sAssign, sIf, sAssert, sAug, sFlow, tIte, tTest, tAnd, tOr, tBin, tNeg, tVar, tLit, tCall, lCons, lNil, tTup, tList, bindR, upd, rho0, dSub, dAddI, D.int.injEq, D.bool.injEq, D.list.injEq, D.str.injEq, D.ref.injEq, D.tup.injEq, exists_eq_left', exists_eq_left, exists_and_left, true_and, and_true, reduceIte, Nat.reduceEqDiff, Option.some.injEq, Sl.val.injEq, Flw.ret.injEq, List.cons.injEq, dEq_ii, dEq_ss, dEq_ll, dNe_ii, dNe_ss, dNe_bb, dNe_ll, Sl.own.injEq]
      congr 2
      rw [octs_succ, il_app]
      congr 1
      unfold il
      rw [List.map_singleton]
      congr 2
      exact carry_mod _ _ _
theorem sp350 : Sp Ω 2 350 g350 := sp_fn (fk350 hΩ) (dv350 hΩ (sp345 hΩ).h) fun ds Q E hds => by
  obtain ⟨x, e, hq⟩ := hds
  subst e
  refine ⟨rfl, ?_⟩
  simp only [T350, sCons, sNil, sRet, sAssign, sIf, sAssert, sAug, sFlow, tIte, tTest, tAnd, tOr, tBin, tNeg, tVar, tLit, tCall, lCons, lNil, tTup, tList, bindR, upd, rho0, dSub, dAddI, D.int.injEq, D.bool.injEq, D.list.injEq, D.str.injEq, D.ref.injEq, D.tup.injEq, exists_eq_left', exists_eq_left, exists_and_left, true_and, and_true, reduceIte, Nat.reduceEqDiff, Option.some.injEq, Sl.val.injEq, Flw.ret.injEq, List.cons.injEq, dEq_ii, dEq_ss, dEq_ll, dNe_ii, dNe_ss, dNe_bb, dNe_ll, Sl.own.injEq, tComp, rList]
  refine ⟨sz_ok (by decide), mulL_one 9 rfl (by decide) ⟨by rw [il_len, row_len]; decide, compT_all (f := fun d => match d with | .int i => .int (255 - i) | _ => d) _ _ (fun d hd Q' hq' => ?_) ?_⟩⟩
  · obtain ⟨o, _, rfl⟩ := List.mem_map.mp hd
    simp only [sCons, sNil, sRet, sAssign, sIf, sAssert, sAug, sFlow, tIte, tTest, tAnd, tOr, tBin, tNeg, tVar, tLit, tCall, lCons, lNil, tTup, tList, bindR, upd, rho0, dSub, dAddI, D.int.injEq, D.bool.injEq, D.list.injEq, D.str.injEq, D.ref.injEq, D.tup.injEq, exists_eq_left', exists_eq_left, exists_and_left, true_and, and_true, reduceIte, Nat.reduceEqDiff, Option.some.injEq, Sl.val.injEq, Flw.ret.injEq, List.cons.injEq, dEq_ii, dEq_ss, dEq_ll, dNe_ii, dNe_ss, dNe_bb, dNe_ll, Sl.own.injEq, restr]
    exact hq'
  · rw [List.nil_append]
    have e1 : (il (row x)).map (fun d => match d with | .int i => D.int (255 - i) | _ => d) = il (row (-1 - x)) := by
      unfold il row octs
      simp only [List.map_map]
      refine List.map_congr_left fun i _ => ?_
      show D.int (255 - x / 256 ^ i % 256) = D.int ((-1 - x) / 256 ^ i % 256)
      rw [neg_oct]
    rw [e1]
    refine ⟨0, -1 - x, 1, ?_, ?_⟩
    · rw [show row 0 = List.replicate 9 0 from octs_zero 9]
    · rw [show 0 + (-1 - x) + 1 = -x by omega]; exact hq
theorem sp338 : Sp Ω 2 338 g338 := sp_fn (fk338 hΩ) (dv338 hΩ (sp331 hΩ).h) fun ds Q E hds => by
  obtain ⟨z, k, sg, e, hk, hz, hq⟩ := hds
  subst e
  refine ⟨rfl, ?_⟩
  have hk9 := kd_le hk
  simp only [T338, sCons, sNil, sRet, sAssign, sIf, sAssert, sAug, sFlow, tIte, tTest, tAnd, tOr, tBin, tNeg, tVar, tLit, tCall, lCons, lNil, tTup, tList, bindR, upd, rho0, dSub, dAddI, D.int.injEq, D.bool.injEq, D.list.injEq, D.str.injEq, D.ref.injEq, D.tup.injEq, exists_eq_left', exists_eq_left, exists_and_left, true_and, and_true, reduceIte, Nat.reduceEqDiff, Option.some.injEq, Sl.val.injEq, Flw.ret.injEq, List.cons.injEq, dEq_ii, dEq_ss, dEq_ll, dNe_ii, dNe_ss, dNe_bb, dNe_ll, Sl.own.injEq, dGe]
  refine ⟨row z, z, k, sg, rfl, hk, by rw [row_len]; omega, by rw [row_len]; decide, octs_take z (by omega), ?_⟩
  simp only [sCons, sNil, sRet, sAssign, sIf, sAssert, sAug, sFlow, tIte, tTest, tAnd, tOr, tBin, tNeg, tVar, tLit, tCall, lCons, lNil, tTup, tList, bindR, upd, rho0, dSub, dAddI, D.int.injEq, D.bool.injEq, D.list.injEq, D.str.injEq, D.ref.injEq, D.tup.injEq, exists_eq_left', exists_eq_left, exists_and_left, true_and, and_true, reduceIte, Nat.reduceEqDiff, Option.some.injEq, Sl.val.injEq, Flw.ret.injEq, List.cons.injEq, dEq_ii, dEq_ss, dEq_ll, dNe_ii, dNe_ss, dNe_bb, dNe_ll, Sl.own.injEq]
  by_cases h : InK k sg z
  · simp only [decide_eq_true ((in_iff hk hz).mpr h), if_true]
    rw [clamp_id h] at hq
    exact hq
  · simp only [decide_eq_false (fun q => h ((in_iff hk hz).mp q)), Bool.false_eq_true, if_false]
    refine idx_row 8 rfl (by decide) ⟨_, rfl, ?_⟩
    by_cases hn : z < 0
    · rw [(top8 hz).1 hn]
      simp only [if_true]
      rw [clamp_lo hk h hn] at hq
      have fin : ∀ o : Int, o = (if sg = true then 128 else 0) → dAddL (.list (il (List.replicate (k - 1) 0))) (.list [.int o]) (fun d => g331 [d, .int (k : Int), .bool sg] (fun d => Q d) E) E := fun o ho => by
        refine addL_il (b := [o]) (len10 hk9) ⟨_, lov k sg, k, sg, rfl, hk, Nat.le_of_eq (len11 hk9).symm, Nat.le_trans (Nat.le_of_eq (len11 hk9)) (Nat.le_trans hk9.2 (by decide)), ?_, by rw [wrap_id hk (lo_in hk)]; exact hq⟩
        rw [List.take_of_length_le (Nat.le_of_eq (len11 hk9)), ho, lo_octs hk]
      refine ⟨sz_ok (by decide), mulL_one (k - 1) (kpred hk9) (Nat.le_trans (Nat.sub_le _ _) (Nat.le_trans hk9.2 (by decide))) ?_⟩
      cases sg with
      | true => exact ⟨sz_ok (by decide), fin 128 rfl⟩
      | false => exact ⟨sz_ok (by decide), fin 0 rfl⟩
    · rw [(top8 hz).2 (Int.not_lt.mp hn)]
      simp only [Bool.false_eq_true, if_false]
      rw [clamp_hi hk h (Int.not_lt.mp hn)] at hq
      have fin : ∀ o : Int, o = (if sg = true then 127 else 255) → dAddL (.list (il (List.replicate (k - 1) 255))) (.list [.int o]) (fun d => g331 [d, .int (k : Int), .bool sg] (fun d => Q d) E) E := fun o ho => by
        refine addL_il (b := [o]) (len10 hk9) ⟨_, hiv k sg, k, sg, rfl, hk, Nat.le_of_eq (len11 hk9).symm, Nat.le_trans (Nat.le_of_eq (len11 hk9)) (Nat.le_trans hk9.2 (by decide)), ?_, by rw [wrap_id hk (hi_in hk)]; exact hq⟩
        rw [List.take_of_length_le (Nat.le_of_eq (len11 hk9)), ho, hi_octs hk]
      refine ⟨sz_ok (by decide), mulL_one (k - 1) (kpred hk9) (Nat.le_trans (Nat.sub_le _ _) (Nat.le_trans hk9.2 (by decide))) ?_⟩
      cases sg with
      | true => exact ⟨sz_ok (by decide), fin 127 rfl⟩
      | false => exact ⟨sz_ok (by decide), fin 255 rfl⟩
end
end Mine
end
section
open PySem PySem.W PyProof.Rows PySem.Calls
set_option Elab.async false
set_option linter.all false
set_option autoImplicit false
set_option maxRecDepth 100000
namespace Mine
noncomputable def dg (x : Int) (i : Nat) : Int := x / 256 ^ i % 256
noncomputable def cv (x y : Int) : Nat → Int
  | 0 => dg x 0 * dg y 0
  | j + 1 => dg x 0 * dg y (j + 1) + cv (x / 256) y j
theorem dg_zero (x : Int) : dg x 0 = x % 256 := by unfold dg; rw [Int.pow_zero, Int.ediv_one]
theorem dg_succ (x : Int) (i : Nat) : dg x (i + 1) = dg (x / 256) i := by unfold dg; rw [div_pow_succ']
theorem cv_sum (x y : Int) (j : Nat) : ((List.range (j + 1)).map fun l => dg x l * dg y (j - l)).sum = cv x y j := by
  induction j generalizing x with
  | zero => simp [cv]
  | succ j ih =>
    rw [List.range_succ_eq_map, List.map_cons, List.sum_cons, List.map_map]
    show dg x 0 * dg y (j + 1 - 0) + _ = dg x 0 * dg y (j + 1) + cv (x / 256) y j
    rw [← ih (x / 256)]
    congr 2
    refine List.map_congr_left fun l _ => ?_
    show dg x (l + 1) * dg y (j + 1 - (l + 1)) = dg (x / 256) l * dg y (j - l)
    rw [dg_succ, Nat.add_sub_add_right]
noncomputable def pr (x y : Int) : Nat → Int
  | 0 => 0
  | n + 1 => pr x y n + cv x y n * 256 ^ n
theorem lowmod (y : Int) (n : Nat) : y % 256 ^ (n + 1) = y % 256 ^ n + dg y n * 256 ^ n := by
  rw [← leN_octs, ← leN_octs, octs_succ]
  have : ∀ (l : List Int) (o : Int), leN (l ++ [o]) = leN l + o * 256 ^ l.length := fun l o => by
    induction l with
    | nil => simp [leN]
    | cons a l ih =>
      show a + 256 * leN (l ++ [o]) = a + 256 * leN l + o * 256 ^ (l.length + 1)
      rw [ih, Int.pow_succ, ← Int.mul_assoc]
      generalize o * 256 ^ l.length = P
      omega
  rw [this, octs_length]
  rfl
theorem pr_rec (x y : Int) (n : Nat) : pr x y (n + 1) = dg x 0 * (y % 256 ^ (n + 1)) + 256 * pr (x / 256) y n := by
  induction n with
  | zero =>
    show 0 + cv x y 0 * 256 ^ 0 = dg x 0 * (y % 256 ^ 1) + 256 * 0
    rw [lowmod, Int.pow_zero, Int.emod_one]
    simp [cv]
  | succ n ih =>
    show pr x y (n + 1) + cv x y (n + 1) * 256 ^ (n + 1) = _ + 256 * (pr (x / 256) y n + cv (x / 256) y n * 256 ^ n)
    rw [ih, lowmod y (n + 1)]
    show _ + (dg x 0 * dg y (n + 1) + cv (x / 256) y n) * 256 ^ (n + 1) = _
    rw [Int.pow_succ]
    generalize y % (256 ^ n * 256) = a
    generalize (256 : Int) ^ n = P
    generalize pr (x / 256) y n = b
    generalize cv (x / 256) y n = c
    generalize dg x 0 = d
    generalize dg y (n + 1) = e
    grind
theorem pr_mod (x y : Int) (n : Nat) : ∃ q, x * y = pr x y n + 256 ^ n * q := by
  induction n generalizing x with
  | zero => exact ⟨x * y, by simp [pr]⟩
  | succ n ih =>
    obtain ⟨q, hq⟩ := ih (x / 256)
    refine ⟨q + dg x 0 * (y / 256 ^ (n + 1)), ?_⟩
    rw [pr_rec]
    have h1 : x = 256 * (x / 256) + dg x 0 := by rw [dg_zero]; omega
    have h2 := Int.mul_ediv_add_emod y (256 ^ (n + 1))
    have h3 : (256 : Int) ^ (n + 1) = 256 ^ n * 256 := Int.pow_succ ..
    generalize y / 256 ^ (n + 1) = u at *
    generalize y % 256 ^ (n + 1) = v at *
    generalize dg x 0 = d at *
    generalize x / 256 = z at *
    generalize pr z y n = b at *
    rw [h3] at h2 ⊢
    generalize (256 : Int) ^ n = P at *
    subst h1
    grind
theorem pr_octs (x y : Int) (n : Nat) : octs (pr x y n) n = octs (x * y) n := by
  obtain ⟨q, hq⟩ := pr_mod x y n
  refine octs_congr ?_
  rw [hq, Int.add_mul_emod_self_left]
theorem pr_step (x y : Int) (n : Nat) : octs (pr x y (n + 1)) (n + 1) = octs (pr x y n) n ++ [(pr x y n / 256 ^ n + cv x y n) % 256] := by
  have hp := pow256_pos n
  rw [octs_succ]
  show octs (pr x y n + cv x y n * 256 ^ n) n ++ [(pr x y n + cv x y n * 256 ^ n) / 256 ^ n % 256] = _
  rw [octs_congr (x := pr x y n + cv x y n * 256 ^ n) (y := pr x y n) (by rw [Int.add_mul_emod_self_right]), Int.add_mul_ediv_right _ _ (Int.ne_of_gt hp)]
theorem pr_carry (x y : Int) (n : Nat) : (pr x y n / 256 ^ n + cv x y n) / 256 = pr x y (n + 1) / 256 ^ (n + 1) := by
  rw [div_pow_succ]
  show _ = (pr x y n + cv x y n * 256 ^ n) / 256 ^ n / 256
  rw [Int.add_mul_ediv_right _ _ (Int.ne_of_gt (pow256_pos n))]
theorem dv_step {by' rest d : Int} (h : 0 < by') : (256 * (rest / by') + (256 * (rest % by') + d) / by') = (256 * rest + d) / by' ∧ (256 * (rest % by') + d) % by' = (256 * rest + d) % by' := by
  have h1 := Int.mul_ediv_add_emod rest by'
  have e : 256 * rest + d = (256 * (rest % by') + d) + by' * (256 * (rest / by')) := by
    generalize rest / by' = q at *
    generalize rest % by' = r at *
    rw [← h1]; grind
  rw [e, Int.add_mul_ediv_left _ _ (Int.ne_of_gt h), Int.add_mul_emod_self_left]
  exact ⟨by omega, rfl⟩
theorem octs_push {a d : Int} (n : Nat) (h0 : 0 ≤ d) (h1 : d < 256) : octs (256 * a + d) (n + 1) = d :: octs a n := by
  rw [octs_cons, show (256 * a + d) % 256 = d by omega, show (256 * a + d) / 256 = a by omega]
theorem digit_lt {by' r d : Int} (h : 0 < by') (h0 : 0 ≤ r) (h1 : r < by') (d0 : 0 ≤ d) (d1 : d < 256) : 0 ≤ (256 * r + d) / by' ∧ (256 * r + d) / by' < 256 := by
  constructor
  · exact Int.ediv_nonneg (by omega) (by omega)
  · rw [Int.ediv_lt_iff_lt_mul h]; omega
end Mine
end
section
open PySem PySem.W PyProof.Rows PySem.Calls
set_option Elab.async false
set_option linter.all false
set_option autoImplicit false
set_option maxRecDepth 100000
namespace Mine
noncomputable def bitsL (z : Int) (n : Nat) : List Int := (List.range n).map fun i => z / 2 ^ i % 2
theorem pow2_pos (n : Nat) : (0 : Int) < 2 ^ n := Int.pow_pos (by decide)
theorem bitsL_len (z : Int) (n : Nat) : (bitsL z n).length = n := by simp [bitsL]
theorem bitsL_get (z : Int) {n i : Nat} (h : i < n) : (bitsL z n)[i]? = some (z / 2 ^ i % 2) := by simp [bitsL, h]
theorem p8 (p : Nat) : (2 : Int) ^ (8 * p) = 256 ^ p := by rw [Int.pow_mul]; rfl
theorem bit_at (z : Int) (p l : Nat) : z / 2 ^ (8 * p + l) % 2 = z / 256 ^ p / 2 ^ l % 2 := by
  rw [Int.pow_add, p8, Int.ediv_ediv_of_nonneg (Int.le_of_lt (pow256_pos p))]
theorem mod_next (Z : Int) (n : Nat) : Z % 2 ^ (n + 1) = Z % 2 ^ n + Z / 2 ^ n % 2 * 2 ^ n := by
  have hp := pow2_pos n
  have e1 : Z = 2 ^ n * (Z / 2 ^ n) + Z % 2 ^ n := (Int.mul_ediv_add_emod Z _).symm
  have e2 : Z / 2 ^ n = 2 * (Z / 2 ^ n / 2) + Z / 2 ^ n % 2 := (Int.mul_ediv_add_emod _ _).symm
  have b1 := Int.emod_nonneg Z (Int.ne_of_gt hp)
  have b2 := Int.emod_lt_of_pos Z hp
  have b3 : 0 ≤ Z / 2 ^ n % 2 ∧ Z / 2 ^ n % 2 ≤ 1 := by omega
  generalize Z / 2 ^ n % 2 = b at *
  generalize Z / 2 ^ n / 2 = q at *
  generalize Z / 2 ^ n = d at *
  generalize Z % 2 ^ n = r at *
  subst e2
  rw [e1, Int.pow_succ, show 2 ^ n * (2 * q + b) + r = (r + b * 2 ^ n) + 2 ^ n * 2 * q by grind, Int.add_mul_emod_self_left]
  refine Int.emod_eq_of_lt ?_ ?_
  · have := Int.mul_nonneg b3.1 (Int.le_of_lt hp); omega
  · have := Int.mul_le_mul_of_nonneg_right b3.2 (Int.le_of_lt hp); omega
theorem sum_bits (Z : Int) : ∀ n : Nat, ((List.range n).map fun l => Z / 2 ^ l % 2 * 2 ^ l).sum = Z % 2 ^ n
  | 0 => by rw [Int.pow_zero, Int.emod_one]; rfl
  | n + 1 => by rw [List.range_succ, List.map_append, List.sum_append, sum_bits Z n, mod_next]; simp
theorem pack_byte (Z : Int) : ((List.range 8).map fun l => Z / 2 ^ l % 2 * 2 ^ l).sum = Z % 256 := sum_bits Z 8
end Mine
end
section
open PySem PySem.W PyProof.Rows PySem.Calls
set_option Elab.async false
set_option linter.all false
set_option autoImplicit false
set_option maxRecDepth 100000
namespace Mine
noncomputable def g355 : FT := fun ds Q _ => ∃ x y k, ds = [.list (il (row x)), .list (il (row y)), .int (k : Nat)] ∧ Kd k ∧ Q (.list (il (octs (x * y) k)))
noncomputable def g362 : FT := fun ds Q _ => ∃ x y k, ds = [.list (il (row x)), .list (il (row y)), .int (k : Nat)] ∧ Kd k ∧ 0 ≤ x ∧ x < 256 ^ k ∧ 0 < y ∧ R71 y ∧ Q (.tup [.list (il (row (x / y))), .list (il (row (x % y)))])
noncomputable def g367 : FT := fun ds Q _ => ∃ z k, ds = [.list (il (bitsL z (8 * k))), .int (k : Nat)] ∧ Kd k ∧ Q (.list (il (octs z k)))
theorem dg_bd (x : Int) (i : Nat) : 0 ≤ dg x i ∧ dg x i < 256 := by unfold dg; omega
theorem log_ok {y : Int} (h : R71 y) : y.natAbs.log2 < 9000 := by
  unfold R71 at h
  by_cases h0 : y.natAbs = 0
  · rw [h0]; decide
  · have : y.natAbs.log2 < 72 := (Nat.log2_lt h0).mpr (by omega)
    omega
theorem bits_sz {k : Nat} {z : Int} (h : 1 ≤ k ∧ k ≤ 8) : (il (bitsL z (8 * k))).length ≤ sizeLine := sz_ok (by rw [il_len, bitsL_len]; exact Nat.le_trans (le64 h) (by decide))
theorem bits_lt {k : Nat} {z : Int} (h : 1 ≤ k ∧ k ≤ 8) : (bitsL z (8 * k)).length < 2 ^ 62 := by rw [bitsL_len]; exact Nat.lt_of_le_of_lt (le64 h) (by decide)
theorem lt20 {k : Nat} (h : 1 ≤ k ∧ k ≤ 8) : k < 2 ^ 20 := Nat.lt_of_le_of_lt h.2 (by decide)
theorem rng_len {n : Nat} (h : n ≤ 4096) : (il ((List.range n).map Int.ofNat)).length ≤ 4096 := by rw [il_len, List.length_map, List.length_range]; exact h
theorem lt9 {l i : Nat} (h : l < i + 1) (hi : i < 8) : l < 9 := Nat.lt_of_lt_of_le h (Nat.le_succ_of_le hi)
theorem isub {l i : Nat} (h : l < i + 1) : (i : Int) - (l : Int) = ((i - l : Nat) : Int) := by omega
theorem isub3 {k i : Nat} (h : i < k) : (k : Int) - 1 - (i : Int) = ((k - 1 - i : Nat) : Int) := by omega
theorem ki_succ {k i : Nat} (h : i < k) : k - i = k - 1 - i + 1 := by
  rw [Nat.sub_right_comm]
  exact (Nat.sub_add_cancel (Nat.sub_pos_of_lt h)).symm
theorem pow8 : ∀ l : Nat, l < 8 → (2 : Int) ^ l ≤ 2 ^ 8 := by decide
theorem pow8l : ∀ l : Nat, l < 8 → ((2 : Int) ^ l).natAbs.log2 < 9000 := by decide +kernel
theorem mulB {a b : Int} (h : 0 ≤ a ∧ a < 256) (h' : 0 ≤ b ∧ b < 256) : IntMulOk a b := mulOk (by omega) (by omega) (by omega) (by omega)
theorem mul256 {r y : Int} (h0 : 0 ≤ r) (h1 : r < y) (hy : R71 y) : IntMulOk 256 r := mulOk (by decide) (by decide) (by omega) (by unfold R71 at hy; omega)
theorem mulP {p : Nat} (h : p < 8) : IntMulOk 8 (p : Int) := mulOk (by decide) (by decide) (by omega) (by omega)
theorem mulP2 {z b : Int} (h0 : 0 < b) (h2 : b ≤ 2 ^ 8) : IntMulOk (z % 2) b := mulOk (by omega) (by omega) (by omega) (by omega)
theorem pl_lt {p l k : Nat} (hp : p < k) (hl : l < 8) : 8 * p + l < 8 * k := by omega
theorem pow_le6 {l : Nat} (hl : l < 8) : (l : Int) ≤ 1000000 := by omega
theorem len_dv {k i : Nat} {q z : Int} (h : 1 ≤ k ∧ k ≤ 8) (hi : i < k) : ([q] : List Int).length + (octs z i ++ List.replicate (9 - k) 0).length ≤ 4096 := by
  rw [List.length_append, octs_length, List.length_replicate]
  show 1 + (i + (9 - k)) ≤ 4096
  omega
section
variable {Ω : Wd} (hΩ : Ω.K = K0 Ω.w.params)
include hΩ
theorem sp355 : Sp Ω 1 355 g355 := sp_fn (fk355 hΩ) (dv355 hΩ) fun ds Q E hds => by
  obtain ⟨x, y, k, e, hk, hq⟩ := hds
  subst e
  refine ⟨rfl, ?_⟩
  have hk9 := kd_le hk
  simp only [T355, sCons, sNil, sRet, sAssign, sIf, sAssert, sAug, sFlow, tIte, tTest, tAnd, tOr, tBin, tNeg, tVar, tLit, tCall, lCons, lNil, tTup, tList, bindR, upd, rho0, dSub, dAddI, D.int.injEq, D.bool.injEq, D.list.injEq, D.str.injEq, D.ref.injEq, D.tup.injEq, exists_eq_left', exists_eq_left, exists_and_left, true_and, and_true, reduceIte, Nat.reduceEqDiff, Option.some.injEq, Sl.val.injEq, Flw.ret.injEq, List.cons.injEq, dEq_ii, dEq_ss, dEq_ll, dNe_ii, dNe_ss, dNe_bb, dNe_ll, Sl.own.injEq, sOwn, sForR, sRetOwn]
  refine ⟨fun j es h => ?_, by decide, k, rfl, lt20 hk9, ?_⟩
  · revert h
    (repeat' split) <;> intro h <;> cases h
  refine loopT_range (fun i ρ => ρ 7 = some (.val (.list (il (row x)))) ∧ ρ 12 = some (.val (.list (il (row y)))) ∧ ρ 13 = some (.val (.int (pr x y i / 256 ^ i))) ∧ ρ 14 = some (.own (il (octs (pr x y i) i)))) ⟨rfl, rfl, rfl, rfl⟩ (fun i ρ hi ⟨h7, h12, h13, h14⟩ K k1 _ _ _ => ?_) (fun ρ ⟨h7, h12, h13, h14⟩ => ⟨_, h14, by rw [pr_octs]; exact hq⟩)
  simp only [B355, sCons, sNil, sRet, sAssign, sIf, sAssert, sAug, sFlow, tIte, tTest, tAnd, tOr, tBin, tNeg, tVar, tLit, tCall, lCons, lNil, tTup, tList, bindR, upd, rho0, dSub, dAddI, D.int.injEq, D.bool.injEq, D.list.injEq, D.str.injEq, D.ref.injEq, D.tup.injEq, exists_eq_left', exists_eq_left, exists_and_left, true_and, and_true, reduceIte, Nat.reduceEqDiff, Option.some.injEq, Sl.val.injEq, Flw.ret.injEq, List.cons.injEq, dEq_ii, dEq_ss, dEq_ll, dNe_ii, dNe_ss, dNe_bb, dNe_ll, Sl.own.injEq, dMod, dFdiv, sAppend, tComp, rRange, h7, h12, h13, h14]
  have hi8 : i < 8 := Nat.lt_of_lt_of_le hi hk9.2
  refine ⟨i + 1, rfl, Nat.lt_of_lt_of_le (Nat.succ_lt_succ hi8) (by decide), rng_len (Nat.le_trans (Nat.succ_le_succ (Nat.le_of_lt hi8)) (by decide)), compT_range (f := fun l => .int (dg x l * dg y (i - l))) (fun l hl Q' hq' => ?_) ?_⟩
  · simp only [sCons, sNil, sRet, sAssign, sIf, sAssert, sAug, sFlow, tIte, tTest, tAnd, tOr, tBin, tNeg, tVar, tLit, tCall, lCons, lNil, tTup, tList, bindR, upd, rho0, dSub, dAddI, D.int.injEq, D.bool.injEq, D.list.injEq, D.str.injEq, D.ref.injEq, D.tup.injEq, exists_eq_left', exists_eq_left, exists_and_left, true_and, and_true, reduceIte, Nat.reduceEqDiff, Option.some.injEq, Sl.val.injEq, Flw.ret.injEq, List.cons.injEq, dEq_ii, dEq_ss, dEq_ll, dNe_ii, dNe_ss, dNe_bb, dNe_ll, Sl.own.injEq, restr, List.mem_cons, List.mem_nil_iff, or_false, or_true, true_or, h7, h12, dMulI]
    have b1 := dg_bd x l
    have b2 := dg_bd y (i - l)
    refine idx_row l rfl (lt9 hl hi8) (idx_row (i - l) (isub hl) (lt9 (Nat.lt_succ_of_le (Nat.sub_le _ _)) hi8) ⟨_, rfl, _, rfl, mulB b1 b2, hq'⟩)
  · rw [List.nil_append]
    have e1 : (List.range (i + 1)).map (fun l => D.int (dg x l * dg y (i - l))) = il ((List.range (i + 1)).map fun l => dg x l * dg y (i - l)) := by unfold il; rw [List.map_map]; rfl
    rw [e1]
    refine ⟨_, rfl, ?_⟩
    rw [cv_sum]
    refine ⟨_, rfl, by rw [il_len, octs_length]; exact Nat.le_trans (Nat.le_of_lt hi8) (by decide), fun q => absurd q (by decide), fun _ => ⟨by decide, fun q => absurd q (by decide), fun _ => k1 _ ⟨h7, h12, ?_, ?_⟩⟩⟩
    · simp only [sCons, sNil, sRet, sAssign, sIf, sAssert, sAug, sFlow, tIte, tTest, tAnd, tOr, tBin, tNeg, tVar, tLit, tCall, lCons, lNil, tTup, tList, bindR, upd, rho0, dSub, dAddI, D.int.injEq, D.bool.injEq, D.list.injEq, D.str.injEq, D.ref.injEq, D.tup.injEq, exists_eq_left', exists_eq_left, exists_and_left, true_and, and_true, reduceIte, Nat.reduceEqDiff, Option.some.injEq, Sl.val.injEq, Flw.ret.injEq, List.cons.injEq, dEq_ii, dEq_ss, dEq_ll, dNe_ii, dNe_ss, dNe_bb, dNe_ll, Sl.own.injEq]
      rw [fd_p _ (by decide), pr_carry]
    · simp only [sCons, sNil, sRet, sAssign, sIf, sAssert, sAug, sFlow, tIte, tTest, tAnd, tOr, tBin, tNeg, tVar, tLit, tCall, lCons, lNil, tTup, tList, bindR, upd, rho0, dSub, dAddI, D.int.injEq, D.bool.injEq, D.list.injEq, D.str.injEq, D.ref.injEq, D.tup.injEq, exists_eq_left', exists_eq_left, exists_and_left, true_and, and_true, reduceIte, Nat.reduceEqDiff, Option.some.injEq, Sl.val.injEq, Flw.ret.injEq, List.cons.injEq, dEq_ii, dEq_ss, dEq_ll, dNe_ii, dNe_ss, dNe_bb, dNe_ll, Sl.own.injEq]
      rw [fm_p _ (by decide), pr_step, il_app]
      rfl
theorem sp362 : Sp Ω 2 362 g362 := sp_fn (fk362 hΩ) (dv362 hΩ ((sp317 hΩ).mono (by decide)).h ((sp324 hΩ).mono (by decide)).h) fun ds Q E hds => by
  obtain ⟨x, y, k, e, hk, hx0, hx, hy, hyr, hq⟩ := hds
  subst e
  refine ⟨rfl, ?_⟩
  have hk9 := kd_le hk
  simp only [T362, sCons, sNil, sRet, sAssign, sIf, sAssert, sAug, sFlow, tIte, tTest, tAnd, tOr, tBin, tNeg, tVar, tLit, tCall, lCons, lNil, tTup, tList, bindR, upd, rho0, dSub, dAddI, D.int.injEq, D.bool.injEq, D.list.injEq, D.str.injEq, D.ref.injEq, D.tup.injEq, exists_eq_left', exists_eq_left, exists_and_left, true_and, and_true, reduceIte, Nat.reduceEqDiff, Option.some.injEq, Sl.val.injEq, Flw.ret.injEq, List.cons.injEq, dEq_ii, dEq_ss, dEq_ll, dNe_ii, dNe_ss, dNe_bb, dNe_ll, Sl.own.injEq, sForR]
  refine ⟨y, rfl, hyr, sz_ok (by decide), mulL_one (9 - k) (nine hk9) (Nat.le_trans (Nat.sub_le _ _) (by decide)) ⟨k, rfl, lt20 hk9, ?_⟩⟩
  refine loopT_range (fun i ρ => ρ 7 = some (.val (.list (il (row x)))) ∧ ρ 10 = some (.val (.int (k : Int))) ∧ ρ 17 = some (.val (.int y)) ∧ ρ 18 = some (.val (.int (x / 256 ^ (k - i) % y))) ∧ ρ 19 = some (.val (.list (il (octs (x / 256 ^ (k - i) / y) i ++ List.replicate (9 - k) 0))))) ?_ (fun i ρ hi ⟨h7, h10, h17, h18, h19⟩ K k1 _ _ _ => ?_) (fun ρ ⟨h7, h10, h17, h18, h19⟩ => ?_)
  · refine ⟨rfl, rfl, rfl, ?_, ?_⟩
    · rw [Nat.sub_zero, Int.ediv_eq_zero_of_lt hx0 hx, Int.zero_emod]; rfl
    · rw [Nat.sub_zero, Int.ediv_eq_zero_of_lt hx0 hx, Int.zero_ediv]; rfl
  · simp only [B362, sCons, sNil, sRet, sAssign, sIf, sAssert, sAug, sFlow, tIte, tTest, tAnd, tOr, tBin, tNeg, tVar, tLit, tCall, lCons, lNil, tTup, tList, bindR, upd, rho0, dSub, dAddI, D.int.injEq, D.bool.injEq, D.list.injEq, D.str.injEq, D.ref.injEq, D.tup.injEq, exists_eq_left', exists_eq_left, exists_and_left, true_and, and_true, reduceIte, Nat.reduceEqDiff, Option.some.injEq, Sl.val.injEq, Flw.ret.injEq, List.cons.injEq, dEq_ii, dEq_ss, dEq_ll, dNe_ii, dNe_ss, dNe_bb, dNe_ll, Sl.own.injEq, dMod, dFdiv, dMulI, h7, h10, h17, h18, h19]
    have hX : x / 256 ^ (k - i) = x / 256 ^ (k - 1 - i) / 256 := by rw [ki_succ hi, div_pow_succ]
    rw [hX] at h18 h19 ⊢
    rw [Nat.sub_add_eq, Nat.sub_right_comm] at k1
    generalize hY : x / 256 ^ (k - 1 - i) = Y at *
    have hr0 : 0 ≤ Y / 256 % y := Int.emod_nonneg _ (Int.ne_of_gt hy)
    have hr1 : Y / 256 % y < y := Int.emod_lt_of_pos _ hy
    have hd := digit_lt (d := Y % 256) hy hr0 hr1 (Int.emod_nonneg _ (by decide)) (Int.emod_lt_of_pos _ (by decide))
    have hs := dv_step (rest := Y / 256) (d := Y % 256) hy
    rw [Int.mul_ediv_add_emod] at hs
    have hy0 : y ≠ 0 := Int.ne_of_gt hy
    refine ⟨mul256 hr0 hr1 hyr, idx_row (k - 1 - i) (isub3 hi) (Nat.lt_of_le_of_lt (Nat.sub_le _ _) (Nat.lt_of_le_of_lt (Nat.sub_le _ _) (Nat.lt_succ_of_le hk9.2))) ⟨_, rfl, log_ok hyr, fun q => absurd q hy0, fun _ => ⟨sz_ok (by simp), ?_⟩⟩⟩
    rw [hY, fd_p _ (Int.le_of_lt hy), fm_p _ (Int.le_of_lt hy)]
    refine addL_il (a := [_]) (len_dv hk9 hi) ⟨fun q => absurd q hy0, fun _ => k1 _ ⟨h7, h10, h17, ?_, ?_⟩⟩
    · simp only [sCons, sNil, sRet, sAssign, sIf, sAssert, sAug, sFlow, tIte, tTest, tAnd, tOr, tBin, tNeg, tVar, tLit, tCall, lCons, lNil, tTup, tList, bindR, upd, rho0, dSub, dAddI, D.int.injEq, D.bool.injEq, D.list.injEq, D.str.injEq, D.ref.injEq, D.tup.injEq, exists_eq_left', exists_eq_left, exists_and_left, true_and, and_true, reduceIte, Nat.reduceEqDiff, Option.some.injEq, Sl.val.injEq, Flw.ret.injEq, List.cons.injEq, dEq_ii, dEq_ss, dEq_ll, dNe_ii, dNe_ss, dNe_bb, dNe_ll, Sl.own.injEq]
      rw [hs.2]
    · simp only [sCons, sNil, sRet, sAssign, sIf, sAssert, sAug, sFlow, tIte, tTest, tAnd, tOr, tBin, tNeg, tVar, tLit, tCall, lCons, lNil, tTup, tList, bindR, upd, rho0, dSub, dAddI, D.int.injEq, D.bool.injEq, D.list.injEq, D.str.injEq, D.ref.injEq, D.tup.injEq, exists_eq_left', exists_eq_left, exists_and_left, true_and, and_true, reduceIte, Nat.reduceEqDiff, Option.some.injEq, Sl.val.injEq, Flw.ret.injEq, List.cons.injEq, dEq_ii, dEq_ss, dEq_ll, dNe_ii, dNe_ss, dNe_bb, dNe_ll, Sl.own.injEq]
      rw [← List.append_assoc, ← hs.1, octs_push _ hd.1 hd.2]
      rfl
  · rw [Nat.sub_self, Int.pow_zero, Int.ediv_one] at h18 h19
    have hm0 : 0 ≤ x % y := Int.emod_nonneg _ (Int.ne_of_gt hy)
    have hm1 : x % y < y := Int.emod_lt_of_pos _ hy
    refine ⟨_, h19, _, h18, _, rfl, ⟨Int.le_trans (by decide) hm0, Int.lt_trans hm1 hyr.2⟩, sz_ok (by simp), ?_⟩
    have hw0 : 0 ≤ x / y := Int.ediv_nonneg hx0 (Int.le_of_lt hy)
    have hw1 : x / y ≤ x := Int.ediv_le_self _ hx0
    have : row (x / y) = octs (x / y) k ++ List.replicate (9 - k) 0 := by
      unfold row
      conv => lhs; rw [show 9 = k + (9 - k) from (Nat.add_sub_of_le (k_le9 hk9)).symm]
      rw [octs_append, Int.ediv_eq_zero_of_lt hw0 (Int.lt_of_le_of_lt hw1 hx), octs_zero]
    rw [← this]
    exact hq
theorem sp367 : Sp Ω 1 367 g367 := sp_fn (fk367 hΩ) (dv367 hΩ) fun ds Q E hds => by
  obtain ⟨z, k, e, hk, hq⟩ := hds
  subst e
  refine ⟨rfl, ?_⟩
  have hk9 := kd_le hk
  simp only [T367, sCons, sNil, sRet, sAssign, sIf, sAssert, sAug, sFlow, tIte, tTest, tAnd, tOr, tBin, tNeg, tVar, tLit, tCall, lCons, lNil, tTup, tList, bindR, upd, rho0, dSub, dAddI, D.int.injEq, D.bool.injEq, D.list.injEq, D.str.injEq, D.ref.injEq, D.tup.injEq, exists_eq_left', exists_eq_left, exists_and_left, true_and, and_true, reduceIte, Nat.reduceEqDiff, Option.some.injEq, Sl.val.injEq, Flw.ret.injEq, List.cons.injEq, dEq_ii, dEq_ss, dEq_ll, dNe_ii, dNe_ss, dNe_bb, dNe_ll, Sl.own.injEq, tComp, rRange]
  refine ⟨k, rfl, lt20 hk9, rng_len (Nat.le_trans hk9.2 (by decide)), compT_range (f := fun p => .int (z / 256 ^ p % 256)) (fun p hp Q' hq' => ?_) ?_⟩
  · simp only [sCons, sNil, sRet, sAssign, sIf, sAssert, sAug, sFlow, tIte, tTest, tAnd, tOr, tBin, tNeg, tVar, tLit, tCall, lCons, lNil, tTup, tList, bindR, upd, rho0, dSub, dAddI, D.int.injEq, D.bool.injEq, D.list.injEq, D.str.injEq, D.ref.injEq, D.tup.injEq, exists_eq_left', exists_eq_left, exists_and_left, true_and, and_true, reduceIte, Nat.reduceEqDiff, Option.some.injEq, Sl.val.injEq, Flw.ret.injEq, List.cons.injEq, dEq_ii, dEq_ss, dEq_ll, dNe_ii, dNe_ss, dNe_bb, dNe_ll, Sl.own.injEq, restr, List.mem_cons, List.mem_nil_iff, or_false, or_true, true_or]
    refine ⟨8, rfl, by decide, by decide, compT_range (f := fun l => .int (z / 256 ^ p / 2 ^ l % 2 * 2 ^ l)) (fun l hl Q'' hq'' => ?_) ?_⟩
    · simp only [sCons, sNil, sRet, sAssign, sIf, sAssert, sAug, sFlow, tIte, tTest, tAnd, tOr, tBin, tNeg, tVar, tLit, tCall, lCons, lNil, tTup, tList, bindR, upd, rho0, dSub, dAddI, D.int.injEq, D.bool.injEq, D.list.injEq, D.str.injEq, D.ref.injEq, D.tup.injEq, exists_eq_left', exists_eq_left, exists_and_left, true_and, and_true, reduceIte, Nat.reduceEqDiff, Option.some.injEq, Sl.val.injEq, Flw.ret.injEq, List.cons.injEq, dEq_ii, dEq_ss, dEq_ll, dNe_ii, dNe_ss, dNe_bb, dNe_ll, Sl.own.injEq, restr, List.mem_cons, List.mem_nil_iff, or_false, or_true, true_or, dMulI, dPow]
      have hb : z / 2 ^ (8 * p + l) % 2 = z / 256 ^ p / 2 ^ l % 2 := bit_at z p l
      have e1 : ((l : Int).toNat) = l := Int.toNat_natCast l
      have hl2 : (2 : Int) ^ l ≤ 2 ^ 8 := pow8 l hl
      have hl0 := pow2_pos l
      rw [e1]
      refine ⟨mulOk (by decide) (by decide) (by omega) (by omega), idx_il (8 * p + l) _ (by omega) (bitsL_get z (by omega)) (bits_lt hk9) ⟨by omega, by omega, by decide, _, rfl, mulOk (by omega) (by omega) (by omega) (by omega), ?_⟩⟩
      rw [hb]
      exact hq''
    · show fSum _ _ _
      rw [List.nil_append]
      have e1 : (List.range 8).map (fun l => D.int (z / 256 ^ p / 2 ^ l % 2 * 2 ^ l)) = il ((List.range 8).map fun l => z / 256 ^ p / 2 ^ l % 2 * 2 ^ l) := by unfold il; rw [List.map_map]; rfl
      rw [e1]
      refine ⟨_, rfl, ?_⟩
      rw [pack_byte]
      exact hq'
  · rw [List.nil_append]
    have e1 : (List.range k).map (fun p => D.int (z / 256 ^ p % 256)) = il (octs z k) := by unfold il octs; rw [List.map_map]; rfl
    rw [e1]
    exact hq
end
end Mine
end
section
open PySem PySem.W PyProof.Rows PySem.Calls
set_option Elab.async false
set_option linter.all false
set_option autoImplicit false
set_option maxRecDepth 100000
namespace Mine
noncomputable def mag (x : Int) : Int := if x < 0 then -x else x
noncomputable def tq (x y : Int) : Int := if (decide (x < 0) != decide (y < 0)) = true then -(mag x / mag y) else mag x / mag y
noncomputable def tr (x y : Int) : Int := if x < 0 then -(mag x % mag y) else mag x % mag y
inductive Res where
  | no (c : Nat) | ok (v : Int)
noncomputable def Res.due : Res → D
  | .no c => .str c
  | .ok v => .list (il (row v))
noncomputable def Res.told : Res → D
  | .no c => .str c
  | .ok v => .int v
noncomputable def rq (nm k : Nat) (sg : Bool) (x y : Int) : Res := if y = 0 then .no 15 else if nm = 6 then .ok (tr x y) else if lov k sg ≤ tq x y ∧ tq x y ≤ hiv k sg then .ok (tq x y) else .no 16
noncomputable def g374 : FT := fun ds Q _ => ∃ nm x y k sg, ds = [.str nm, .list (il (row x)), .list (il (row y)), .int (k : Nat), .bool sg] ∧ (nm = 5 ∨ nm = 6) ∧ Kd k ∧ InK k sg x ∧ InK k sg y ∧ Q ((rq nm k sg x y).due)
theorem top_neg {x : Int} (h : R71 x) : decide (128 ≤ x / 256 ^ 8 % 256) = decide (x < 0) := by
  by_cases hn : x < 0
  · rw [decide_eq_true hn, (top8 h).1 hn]
  · rw [decide_eq_false hn, (top8 h).2 (Int.not_lt.mp hn)]
theorem mag_bd {k : Nat} {sg : Bool} (hk : Kd k) {x : Int} (h : InK k sg x) : 0 ≤ mag x ∧ mag x < 256 ^ k := by
  obtain ⟨G, g0, g1, e1, e2, e3, e4⟩ := kd_pow hk
  unfold InK lov hiv at h
  rw [e2, e3] at h
  rw [e4]
  clear e1 e2 e3 e4 hk g1
  unfold mag
  cases sg with
  | true => rw [if_pos rfl, if_pos rfl] at h; split <;> omega
  | false => rw [if_neg (by decide), if_neg (by decide)] at h; rw [if_neg (Int.not_lt.mpr h.1)]; exact ⟨h.1, Int.lt_of_le_sub_one h.2⟩
theorem mag_pos {x : Int} (h : x ≠ 0) : 0 < mag x := by unfold mag; split <;> omega
theorem mag_r71 {k : Nat} {sg : Bool} (hk : Kd k) {x : Int} (h : InK k sg x) : R71 (mag x) := by
  have := mag_bd hk h
  unfold R71
  rcases hk with rfl | rfl | rfl <;> omega
theorem magq {x y : Int} (h : x ≠ 0 ∨ True) (hx : 0 ≤ mag x) (hy : 0 < mag y) : 0 ≤ mag x / mag y ∧ mag x / mag y ≤ mag x ∧ 0 ≤ mag x % mag y ∧ mag x % mag y < mag y :=
  ⟨Int.ediv_nonneg hx (by omega), Int.ediv_le_self _ hx, Int.emod_nonneg _ (by omega), Int.emod_lt_of_pos _ hy⟩
theorem eq_ll {Q : D → Prop} {E : Nat → Prop} {x y : List Int} (h : Q (.bool (decide (x = y)))) : dEq (.list (il x)) (.list (il y)) Q E := by rw [dEq_ll]; exact h
theorem eq_ss {Q : D → Prop} {E : Nat → Prop} {x y : Nat} (h : Q (.bool (x == y))) : dEq (.str x) (.str y) Q E := by rw [dEq_ss]; exact h
section
variable {ρ : Rho} {E : Nat → Prop} {x : Int} {i : Nat}
noncomputable abbrev eNeg (i : Nat) : TE := tBin dGe (tBin dIdx (tVar i) (tLit (.int 8))) (tLit (.int 128))
theorem e_neg {Q : D → Prop} (h : ρ i = some (.val (.list (il (row x))))) (hx : R71 x) (hq : Q (.bool (decide (x < 0)))) : eNeg i ρ Q E := by
  simp only [eNeg, sCons, sNil, sRet, sAssign, sIf, sAssert, sAug, sFlow, tIte, tTest, tAnd, tOr, tBin, tNeg, tVar, tLit, tCall, lCons, lNil, tTup, tList, bindR, upd, rho0, dSub, dAddI, D.int.injEq, D.bool.injEq, D.list.injEq, D.str.injEq, D.ref.injEq, D.tup.injEq, exists_eq_left', exists_eq_left, exists_and_left, true_and, and_true, reduceIte, Nat.reduceEqDiff, Option.some.injEq, Sl.val.injEq, Flw.ret.injEq, List.cons.injEq, dEq_ii, dEq_ss, dEq_ll, dNe_ii, dNe_ss, dNe_bb, dNe_ll, Sl.own.injEq, dGe, h]
  refine idx_row 8 rfl (by decide) ⟨_, rfl, ?_⟩
  rw [top_neg hx]
  exact hq
theorem t_neg {Q : Bool → Prop} (h : ρ i = some (.val (.list (il (row x))))) (hx : R71 x) (hq : Q (decide (x < 0))) : tTest (eNeg i) ρ Q E :=
  e_neg h hx ⟨_, rfl, hq⟩
theorem t_mag {Q : D → Prop} (h : ρ i = some (.val (.list (il (row x))))) (hx : R71 x) (hq : Q (.list (il (row (mag x))))) : tIte (tTest (eNeg i)) (tCall g350 (lCons (tVar i) lNil)) (tVar i) ρ Q E := by
  refine t_neg h hx ?_
  unfold mag at hq
  by_cases hn : x < 0
  · rw [if_pos hn] at hq
    rw [decide_eq_true hn]
    exact ⟨_, h, x, rfl, hq⟩
  · rw [if_neg hn] at hq
    rw [decide_eq_false hn]
    exact ⟨_, h, hq⟩
theorem t_zero {Q : Bool → Prop} (h : ρ i = some (.val (.list (il (row x))))) (hx : R71 x) (hq : Q (decide (x = 0))) : tTest (tBin dEq (tVar i) (tBin dMulL (tList (lCons (tLit (.int 0)) lNil)) (tLit (.int 9)))) ρ Q E := by
  simp only [sCons, sNil, sRet, sAssign, sIf, sAssert, sAug, sFlow, tIte, tTest, tAnd, tOr, tBin, tNeg, tVar, tLit, tCall, lCons, lNil, tTup, tList, bindR, upd, rho0, dSub, dAddI, D.int.injEq, D.bool.injEq, D.list.injEq, D.str.injEq, D.ref.injEq, D.tup.injEq, exists_eq_left', exists_eq_left, exists_and_left, true_and, and_true, reduceIte, Nat.reduceEqDiff, Option.some.injEq, Sl.val.injEq, Flw.ret.injEq, List.cons.injEq, dEq_ii, dEq_ss, dEq_ll, dNe_ii, dNe_ss, dNe_bb, dNe_ll, Sl.own.injEq, h]
  refine ⟨sz_ok (by decide), mulL_one 9 rfl (by decide) ?_⟩
  rw [show List.replicate 9 (0 : Int) = row 0 from (octs_zero 9).symm, dEq_ll]
  have : decide (row x = row 0) = decide (x = 0) := by
    have := row_inj hx (show R71 0 by unfold R71; omega)
    simp only [this]
  rw [this]
  exact ⟨_, rfl, hq⟩
theorem t_str {Q : Bool → Prop} {a b : Nat} (h : ρ i = some (.val (.str a))) (hq : Q (a == b)) : tTest (tBin dEq (tVar i) (tLit (.str b))) ρ Q E := by
  simp only [sCons, sNil, sRet, sAssign, sIf, sAssert, sAug, sFlow, tIte, tTest, tAnd, tOr, tBin, tNeg, tVar, tLit, tCall, lCons, lNil, tTup, tList, bindR, upd, rho0, dSub, dAddI, D.int.injEq, D.bool.injEq, D.list.injEq, D.str.injEq, D.ref.injEq, D.tup.injEq, exists_eq_left', exists_eq_left, exists_and_left, true_and, and_true, reduceIte, Nat.reduceEqDiff, Option.some.injEq, Sl.val.injEq, Flw.ret.injEq, List.cons.injEq, dEq_ii, dEq_ss, dEq_ll, dNe_ii, dNe_ss, dNe_bb, dNe_ll, Sl.own.injEq, h]
  exact hq
theorem ne_b {Q : D → Prop} {t u : TE} {a b : Bool} (ha : ∀ Q : D → Prop, Q (.bool a) → t ρ Q E) (hb : ∀ Q : D → Prop, Q (.bool b) → u ρ Q E) (hq : Q (.bool (a != b))) : tBin dNe t u ρ Q E :=
  ha _ (hb _ (by rw [dNe_bb]; exact hq))
end
section
variable {Ω : Wd} (hΩ : Ω.K = K0 Ω.w.params)
include hΩ
theorem sp374 : Sp Ω 4 374 g374 := sp_fn (fk374 hΩ) (dv374 hΩ ((sp331 hΩ).mono (by decide)).h ((sp350 hΩ).mono (by decide)).h ((sp362 hΩ).mono (by decide)).h) fun ds Q E hds => by
  obtain ⟨nm, x, y, k, sg, e, hnm, hk, hx, hy, hq⟩ := hds
  subst e
  refine ⟨rfl, ?_⟩
  have hx7 := ink_r71 hk hx
  have hy7 := ink_r71 hk hy
  have hmx := mag_bd hk hx
  have hmy := mag_r71 hk hy
  have hmx7 := mag_r71 hk hx
  simp only [T374, sCons, sIf, sRet, sNil, sAssign, sAssignTup]
  refine t_zero (i := 23) (x := y) rfl hy7 ?_
  by_cases h0 : y = 0
  · simp only [rq, if_pos h0] at hq
    rw [decide_eq_true h0]
    exact ⟨_, rfl, hq⟩
  have hpy := mag_pos h0
  have hb := magq (x := x) (y := y) (.inr trivial) hmx.1 hpy
  simp only [rq, if_neg h0] at hq
  rw [decide_eq_false h0]
  refine t_mag (i := 22) (x := x) rfl hx7 (t_mag (i := 23) (x := y) rfl hy7 ⟨_, rfl, mag x, mag y, k, rfl, hk, hmx.1, hmx.2, hpy, hmy, [_, _], rfl, rfl, ?_⟩)
  refine t_str (i := 21) (a := nm) rfl ?_
  have hqr : R71 (mag x / mag y) := by unfold R71 at *; omega
  have hrr : R71 (mag x % mag y) := by unfold R71 at *; omega
  rcases hnm with rfl | rfl
  · simp only [show ((5 : Nat) == 6) = false from rfl, show ¬ ((5 : Nat) = 6) by decide, if_false, Bool.false_eq_true] at hq ⊢
    have fin : ∀ ρ : Rho, ρ 19 = some (.val (.list (il (row (tq x y))))) → ρ 10 = some (.val (.int (k : Int))) → ρ 11 = some (.val (.bool sg)) → R71 (tq x y) → ∀ K : D → Prop, (∀ d, Q d → K d) →
        tIte (tTest (tBin dEq (tCall g331 (lCons (tVar 19) (lCons (tVar 10) (lCons (tVar 11) lNil)))) (tVar 19))) (tVar 19) (tLit (.str 16)) ρ K E := fun ρ h19 h10 h11 h7 K hK => by
      refine ⟨_, h19, _, h10, _, h11, row (tq x y), tq x y, k, sg, rfl, hk, by rw [row_len]; rcases hk with rfl | rfl | rfl <;> decide, by rw [row_len]; decide, octs_take _ (by rcases hk with rfl | rfl | rfl <;> decide), _, h19, eq_ll ⟨_, rfl, ?_⟩⟩
      by_cases h : InK k sg (tq x y)
      · rw [if_pos (show lov k sg ≤ tq x y ∧ tq x y ≤ hiv k sg from h)] at hq
        rw [decide_eq_true ((in_iff hk h7).mpr h)]
        exact ⟨_, h19, hK _ hq⟩
      · rw [if_neg (show ¬ (lov k sg ≤ tq x y ∧ tq x y ≤ hiv k sg) from h)] at hq
        rw [decide_eq_false fun q => h ((in_iff hk h7).mp q)]
        exact hK _ hq
    refine ne_b (a := decide (x < 0)) (b := decide (y < 0)) (fun Q hq => e_neg (i := 22) (x := x) rfl hx7 hq) (fun Q hq => e_neg (i := 23) (x := y) rfl hy7 hq) ⟨_, rfl, ?_⟩
    cases hs : (decide (x < 0) != decide (y < 0)) with
    | true =>
      have ht : tq x y = -(mag x / mag y) := by unfold tq; rw [hs]; rfl
      refine ⟨_, rfl, mag x / mag y, rfl, ?_⟩
      exact fin _ (by rw [ht]; rfl) rfl rfl (by rw [ht]; unfold R71 at *; omega) _ fun d hd => ⟨d, rfl, hd⟩
    | false =>
      have ht : tq x y = mag x / mag y := by unfold tq; rw [hs]; rfl
      exact fin _ (by rw [ht]; rfl) rfl rfl (by rw [ht]; exact hqr) _ fun d hd => ⟨d, rfl, hd⟩
  · simp only [show ((6 : Nat) == 6) = true from rfl, if_true] at hq ⊢
    refine t_neg (i := 22) (x := x) rfl hx7 ?_
    unfold tr at hq
    by_cases hn : x < 0
    · rw [if_pos hn] at hq
      rw [decide_eq_true hn]
      exact ⟨_, rfl, _, rfl, _, rfl, hq⟩
    · rw [if_neg hn] at hq
      rw [decide_eq_false hn]
      exact ⟨_, rfl, _, rfl, hq⟩
end
end Mine
end
section
open PySem PySem.W PyProof.Rows PySem.Calls
set_option Elab.async false
set_option linter.all false
set_option autoImplicit false
set_option maxRecDepth 100000
namespace Mine
theorem bitsL_none (z : Int) {n i : Nat} (h : n ≤ i) : (bitsL z n)[i]? = none := List.getElem?_eq_none (by rw [bitsL_len]; exact h)
theorem div2_add (z : Int) (a b : Nat) : z / 2 ^ (a + b) = z / 2 ^ a / 2 ^ b := by rw [Int.pow_add, Int.ediv_ediv_of_nonneg (Int.le_of_lt (pow2_pos a))]
theorem mul_bit (x : Int) {t i : Nat} : x * 2 ^ t / 2 ^ i % 2 = if i < t then 0 else x / 2 ^ (i - t) % 2 := by
  split
  · rename_i h
    obtain ⟨m, rfl⟩ : ∃ m, t = i + 1 + m := ⟨t - i - 1, by omega⟩
    have : x * 2 ^ (i + 1 + m) = x * 2 ^ m * 2 * 2 ^ i := by rw [Int.pow_add, Int.pow_succ]; grind
    rw [this, Int.mul_ediv_cancel _ (Int.ne_of_gt (pow2_pos i))]
    omega
  · rename_i h
    obtain ⟨m, rfl⟩ : ∃ m, i = t + m := ⟨i - t, by omega⟩
    rw [div2_add, Int.mul_ediv_cancel _ (Int.ne_of_gt (pow2_pos t)), Nat.add_sub_cancel_left]
theorem bits_shl (x : Int) {t L : Nat} (h : t ≤ L) : List.replicate t 0 ++ (bitsL x L).take (L - t) = bitsL (x * 2 ^ t) L := by
  refine List.ext_getElem? fun i => ?_
  by_cases hi : i < L
  · rw [bitsL_get _ hi, mul_bit, List.getElem?_append, List.length_replicate]
    split
    · rename_i h1; rw [List.getElem?_replicate, if_pos h1]
    · rename_i h1; rw [List.getElem?_take, if_pos (by omega), bitsL_get _ (by omega)]
  · rw [bitsL_none _ (by omega), List.getElem?_eq_none]
    rw [List.length_append, List.length_replicate, List.length_take, bitsL_len]; omega
theorem bits_shr (x : Int) {t L : Nat} (h : t < L) (o : Int) (ho : ∀ j, L ≤ j → x / 2 ^ j % 2 = o) : (bitsL x L).drop t ++ List.replicate t o = bitsL (x / 2 ^ t) L := by
  refine List.ext_getElem? fun i => ?_
  by_cases hi : i < L
  · rw [bitsL_get _ hi, ← div2_add, List.getElem?_append, List.length_drop, bitsL_len]
    split
    · rename_i h1; rw [List.getElem?_drop, bitsL_get _ (by omega)]
    · rename_i h1; rw [List.getElem?_replicate, if_pos (by omega), ho _ (by omega)]
  · rw [bitsL_none _ (by omega), List.getElem?_eq_none]
    rw [List.length_append, List.length_replicate, List.length_drop, bitsL_len]; omega
noncomputable def rotv (x : Int) (t L : Nat) : Int := x * 2 ^ t % 2 ^ L + x / 2 ^ (L - t)
theorem mod_mul (x : Int) {t L : Nat} (h : t ≤ L) : x * 2 ^ t % 2 ^ L = (x % 2 ^ (L - t)) * 2 ^ t := by
  obtain ⟨m, rfl⟩ : ∃ m, L = t + m := ⟨L - t, by omega⟩
  rw [Nat.add_sub_cancel_left, Int.pow_add, Int.mul_comm x, Int.mul_emod_mul_of_pos _ _ (pow2_pos t), Int.mul_comm]
theorem hi_lt {x : Int} {t L : Nat} (h : t ≤ L) (h0 : 0 ≤ x) (h1 : x < 2 ^ L) : 0 ≤ x / 2 ^ (L - t) ∧ x / 2 ^ (L - t) < 2 ^ t := by
  refine ⟨Int.ediv_nonneg h0 (Int.le_of_lt (pow2_pos _)), ?_⟩
  rw [Int.ediv_lt_iff_lt_mul (pow2_pos _), ← Int.pow_add]
  rwa [show t + (L - t) = L by omega]
theorem mod_bit (x : Int) {i n : Nat} (h : i < n) : x % 2 ^ n / 2 ^ i % 2 = x / 2 ^ i % 2 := by
  obtain ⟨m, rfl⟩ : ∃ m, n = i + 1 + m := ⟨n - (i + 1), by omega⟩
  have hp := pow2_pos i
  have h1 : x = 2 ^ (i + 1 + m) * (x / 2 ^ (i + 1 + m)) + x % 2 ^ (i + 1 + m) := (Int.mul_ediv_add_emod x _).symm
  generalize x / 2 ^ (i + 1 + m) = u at h1
  generalize x % 2 ^ (i + 1 + m) = v at *
  rw [Int.pow_add, Int.pow_succ] at h1
  have h2 : x = v + 2 ^ i * (2 * (2 ^ m * u)) := by rw [h1]; simp only [Int.mul_assoc]; omega
  rw [h2, Int.add_mul_ediv_left _ _ (Int.ne_of_gt hp), Int.add_mul_emod_self_left]
theorem rot_bit (x : Int) {i t L : Nat} (ht : t ≤ L) (h0 : 0 ≤ x) (h1 : x < 2 ^ L) (hi : i < L) : rotv x t L / 2 ^ i % 2 = if i < t then x / 2 ^ (L - t + i) % 2 else x / 2 ^ (i - t) % 2 := by
  unfold rotv
  rw [mod_mul x ht]
  have hh := hi_lt ht h0 h1
  rw [div2_add x (L - t) i]
  generalize x / 2 ^ (L - t) = H at *
  split
  · rename_i h
    obtain ⟨m, rfl⟩ : ∃ m, t = i + 1 + m := ⟨t - i - 1, by omega⟩
    have : x % 2 ^ (L - (i + 1 + m)) * 2 ^ (i + 1 + m) + H = H + 2 ^ i * (2 * (x % 2 ^ (L - (i + 1 + m)) * 2 ^ m)) := by rw [Int.pow_add (2 : Int) (i + 1) m, Int.pow_succ]; grind
    rw [this, Int.add_mul_ediv_left _ _ (Int.ne_of_gt (pow2_pos i)), Int.add_mul_emod_self_left]
  · rename_i h
    obtain ⟨m, rfl⟩ : ∃ m, i = t + m := ⟨i - t, by omega⟩
    rw [div2_add, Int.add_comm, Int.add_mul_ediv_right _ _ (Int.ne_of_gt (pow2_pos t)), Int.ediv_eq_zero_of_lt hh.1 hh.2, Int.zero_add, Nat.add_sub_cancel_left]
    exact mod_bit x (by omega)
theorem bits_rotl (x : Int) {t L : Nat} (ht : t ≤ L) (h0 : 0 ≤ x) (h1 : x < 2 ^ L) : (bitsL x L).drop (L - t) ++ (bitsL x L).take (L - t) = bitsL (rotv x t L) L := by
  refine List.ext_getElem? fun i => ?_
  by_cases hi : i < L
  · rw [bitsL_get _ hi, rot_bit x ht h0 h1 hi, List.getElem?_append, List.length_drop, bitsL_len, Nat.sub_sub_self ht]
    clear h0 h1
    by_cases h2 : i < t
    · rw [if_pos h2, List.getElem?_drop, bitsL_get _ (by omega), if_pos h2]
    · rw [if_neg h2, List.getElem?_take, if_pos (by omega), bitsL_get _ (by omega), if_neg h2]
  · clear h0 h1
    rw [bitsL_none _ (Nat.not_lt.mp hi), List.getElem?_eq_none]
    rw [List.length_append, List.length_drop, List.length_take, bitsL_len]; omega
theorem rotv_bd {x : Int} {t L : Nat} (ht : t ≤ L) (h0 : 0 ≤ x) (h1 : x < 2 ^ L) : 0 ≤ rotv x t L ∧ rotv x t L < 2 ^ L := by
  unfold rotv
  rw [mod_mul x ht]
  have hh := hi_lt ht h0 h1
  have hm := Int.emod_nonneg x (Int.ne_of_gt (pow2_pos (L - t)))
  have hm1 := Int.emod_lt_of_pos x (pow2_pos (L - t))
  have hp := pow2_pos t
  have e : (2 : Int) ^ L = 2 ^ (L - t) * 2 ^ t := by rw [← Int.pow_add]; congr 1; omega
  rw [e]
  generalize x % 2 ^ (L - t) = a at *
  generalize (2 : Int) ^ (L - t) = P at *
  generalize (2 : Int) ^ t = T at *
  have h3 : (a + 1) * T ≤ P * T := Int.mul_le_mul_of_nonneg_right (by omega) (by omega)
  have h4 : 0 ≤ a * T := Int.mul_nonneg hm (by omega)
  rw [Int.add_mul] at h3
  omega
noncomputable def lz (x : Int) : Nat → Nat
  | 0 => 0
  | n + 1 => if x / 2 ^ n % 2 = 1 then 0 else 1 + lz x n
noncomputable def tz (x : Int) : Nat → Nat → Nat
  | 0, _ => 0
  | n + 1, i => if x / 2 ^ i % 2 = 1 then 0 else 1 + tz x n (i + 1)
noncomputable def pc (x : Int) : Nat → Nat
  | 0 => 0
  | n + 1 => pc x n + if x / 2 ^ n % 2 = 1 then 1 else 0
noncomputable def ones (x : Int) (n : Nat) : List Int := List.map (fun i : Nat => (i : Int)) (List.filter (fun i : Nat => x / 2 ^ i % 2 == 1) (List.range n))
theorem ones_succ (x : Int) (n : Nat) : ones x (n + 1) = ones x n ++ if x / 2 ^ n % 2 = 1 then [(n : Int)] else [] := by
  unfold ones
  rw [List.range_succ, List.filter_append, List.map_append]
  congr 1
  by_cases h : x / 2 ^ n % 2 = 1
  · rw [if_pos h]; simp [h]
  · rw [if_neg h]; simp [h]
theorem lz_le (x : Int) (n : Nat) : lz x n ≤ n := by
  induction n with
  | zero => exact Nat.le_refl _
  | succ n ih => unfold lz; split <;> omega
theorem ones_lt (x : Int) (n : Nat) : ∀ a ∈ ones x n, 0 ≤ a ∧ a < n := fun a h => by
  unfold ones at h
  obtain ⟨i, hi, rfl⟩ := List.mem_map.mp h
  have := List.mem_range.mp (List.mem_filter.mp hi).1
  omega
theorem ones_mem (x : Int) {n i : Nat} : (i : Int) ∈ ones x n ↔ i < n ∧ x / 2 ^ i % 2 = 1 := by
  unfold ones
  rw [List.mem_map]
  constructor
  · rintro ⟨j, hj, e⟩
    have := List.mem_filter.mp hj
    obtain rfl : j = i := by omega
    exact ⟨List.mem_range.mp this.1, by simpa using this.2⟩
  · rintro ⟨h1, h2⟩
    exact ⟨i, List.mem_filter.mpr ⟨List.mem_range.mpr h1, by simpa using h2⟩, rfl⟩
theorem lz_max (x : Int) (n : Nat) : ((n : Int) - 1 - lz x n) ∈ -1 :: ones x n ∧ ∀ a ∈ -1 :: ones x n, a ≤ (n : Int) - 1 - lz x n := by
  induction n with
  | zero => simp [lz, ones]
  | succ n ih =>
    rw [ones_succ]
    unfold lz
    by_cases h : x / 2 ^ n % 2 = 1
    · rw [if_pos h, if_pos h]
      refine ⟨(by simp), fun a ha => ?_⟩
      rcases List.mem_cons.mp ha with rfl | ha
      · omega
      · rcases List.mem_append.mp ha with ha | ha
        · have := ones_lt x n a ha; omega
        · rw [List.mem_singleton.mp ha]; omega
    · rw [if_neg h, if_neg h, List.append_nil]
      have e : ((n + 1 : Nat) : Int) - 1 - ((1 + lz x n : Nat) : Int) = (n : Int) - 1 - lz x n := by omega
      rw [e]
      exact ih
theorem pc_len (x : Int) (n : Nat) : (ones x n).length = pc x n := by
  induction n with
  | zero => rfl
  | succ n ih =>
    rw [ones_succ, List.length_append, ih]
    show _ = pc x n + _
    by_cases h : x / 2 ^ n % 2 = 1
    · rw [if_pos h, if_pos h]; rfl
    · rw [if_neg h, if_neg h]; rfl
theorem pc_le (x : Int) (n : Nat) : pc x n ≤ n := by
  induction n with
  | zero => exact Nat.le_refl _
  | succ n ih => unfold pc; split <;> omega
theorem tz_le (x : Int) (n i : Nat) : tz x n i ≤ n := by
  induction n generalizing i with
  | zero => exact Nat.le_refl _
  | succ n ih => unfold tz; have := ih (i + 1); split <;> omega
theorem tz_spec (x : Int) (n i : Nat) : (∀ j, i ≤ j → j < i + tz x n i → x / 2 ^ j % 2 ≠ 1) ∧ (tz x n i < n → x / 2 ^ (i + tz x n i) % 2 = 1) := by
  induction n generalizing i with
  | zero => exact ⟨fun j h1 h2 => by simp [tz] at h2; omega, fun h => by simp [tz] at h⟩
  | succ n ih =>
    unfold tz
    by_cases h : x / 2 ^ i % 2 = 1
    · rw [if_pos h]; exact ⟨fun j h1 h2 => by omega, fun _ => h⟩
    · rw [if_neg h]
      refine ⟨fun j h1 h2 => ?_, fun h2 => ?_⟩
      · by_cases hj : j = i
        · rw [hj]; exact h
        · exact (ih (i + 1)).1 j (by omega) (by omega)
      · have := (ih (i + 1)).2 (by omega)
        rwa [show i + 1 + tz x n (i + 1) = i + (1 + tz x n (i + 1)) by omega] at this
theorem tz_min (x : Int) (n : Nat) : (tz x n 0 : Int) ∈ ones x n ++ [(n : Int)] ∧ ∀ a ∈ ones x n ++ [(n : Int)], (tz x n 0 : Int) ≤ a := by
  have h := tz_spec x n 0
  have hl := tz_le x n 0
  constructor
  · by_cases h1 : tz x n 0 < n
    · have := h.2 h1
      rw [Nat.zero_add] at this
      exact List.mem_append_left _ ((ones_mem x).mpr ⟨h1, this⟩)
    · rw [show tz x n 0 = n by omega]; simp
  · intro a ha
    rcases List.mem_append.mp ha with ha | ha
    · have hb := ones_lt x n a ha
      obtain ⟨i, rfl⟩ := Int.eq_ofNat_of_zero_le hb.1
      have hm := (ones_mem x).mp ha
      by_cases hc : i < tz x n 0
      · exact absurd hm.2 (h.1 i (by omega) (by omega))
      · omega
    · rw [List.mem_singleton.mp ha]; omega
end Mine
end
section
open PySem PySem.W PyProof.Rows PySem.Calls
set_option Elab.async false
set_option linter.all false
set_option autoImplicit false
set_option maxRecDepth 100000
namespace Mine
noncomputable def sh (k : Nat) (y : Int) : Nat := (y % (8 * k : Nat)).toNat
noncomputable def res (nm k : Nat) (sg : Bool) (x y : Int) : Res :=
  match nm with
  | 0 => .ok (wrapv k sg (x + y))
  | 1 => .ok (wrapv k sg (x - y))
  | 2 => .ok (wrapv k sg (x * y))
  | 3 => .ok (clampv k sg (x + y))
  | 4 => .ok (clampv k sg (x - y))
  | 5 => rq 5 k sg x y
  | 6 => rq 6 k sg x y
  | 7 => .ok (wrapv k sg (x * 2 ^ sh k y))
  | 8 => .ok (wrapv k sg (x / 2 ^ sh k y))
  | 9 => .ok (clampv k sg x)
  | 10 => .ok (wrapv k sg (rotv x (sh k y) (8 * k)))
  | 11 => .ok (wrapv k sg (rotv x (8 * k - sh k y) (8 * k)))
  | 12 => .ok (lz x (8 * k))
  | 13 => .ok (tz x (8 * k) 0)
  | _ => .ok (pc x (8 * k))
noncomputable def g379 : FT := fun ds Q _ => ∃ nm x y k sg, ds = [.str nm, .list (il (row x)), .list (il (row y)), .int (k : Nat), .bool sg] ∧ nm < 15 ∧ Kd k ∧ R71 x ∧ (nm ≠ 9 → InK k sg x) ∧ InK k sg y ∧ (10 ≤ nm → sg = false) ∧ Q ((res nm k sg x y).due)
theorem compT_filter {x : Nat} {tt : TB} {te : TE} {ρ : Rho} {p : Nat → Bool} {Q : List D → Prop} (n : Nat) (ht : ∀ i, i < n → ∀ Q' : Bool → Prop, Q' (p i) → tt (upd ρ x (.val (.int (i : Int)))) Q' (fun _ => False)) (he : ∀ i, i < n → ∀ Q' : D → Prop, Q' (.int (i : Int)) → te (upd ρ x (.val (.int (i : Int)))) Q' (fun _ => False)) :
    ∀ (l : List Nat) (acc : List D), (∀ i ∈ l, i < n) → Q (acc ++ il (List.map (fun i : Nat => (i : Int)) (l.filter p))) → compT x tt te ρ (il (l.map Int.ofNat)) acc Q
  | [], acc, _, h => by simpa [compT, il] using h
  | i :: l, acc, hl, h => by
    show tt (upd ρ x (.val (.int (i : Int)))) (fun b => if b then te (upd ρ x (.val (.int (i : Int)))) (fun r => compT x tt te ρ (il (l.map Int.ofNat)) (acc ++ [r]) Q) (fun _ => False) else compT x tt te ρ (il (l.map Int.ofNat)) acc Q) _
    have hi := hl i (.head _)
    refine ht i hi _ ?_
    cases hp : p i with
    | true =>
      refine he i hi _ (compT_filter n ht he l _ (fun j hj => hl j (.tail _ hj)) ?_)
      rw [List.filter_cons_of_pos hp, List.map_cons] at h
      rw [List.append_assoc]
      exact h
    | false =>
      refine compT_filter n ht he l _ (fun j hj => hl j (.tail _ hj)) ?_
      rwa [List.filter_cons_of_neg (by rw [hp]; decide)] at h
theorem bitsL_byte (z : Int) (k : Nat) : bitsL z (8 * (k + 1)) = bitsL z 8 ++ bitsL (z / 256) (8 * k) := by
  refine List.ext_getElem? fun i => ?_
  rw [List.getElem?_append, bitsL_len]
  split
  · rename_i h; rw [bitsL_get _ (by omega), bitsL_get _ h]
  · rename_i h
    by_cases hi : i < 8 * (k + 1)
    · rw [bitsL_get _ hi, bitsL_get _ (by omega), show (256 : Int) = 2 ^ 8 from rfl, ← div2_add, show 8 + (i - 8) = i by omega]
    · rw [bitsL_none _ (by omega), bitsL_none _ (by omega)]
theorem bits_comp {ρ : Rho} {Q : List D → Prop} : ∀ (k : Nat) (z : Int) (acc : List D), acc.length + 8 * k ≤ 4000 → Q (acc ++ il (bitsL z (8 * k))) →
    comp2T 15 9 (rRange (tLit (.int 8))) (tBin dMod (tBin dFdiv (tVar 15) (tBin dPow (tLit (.int 2)) (tVar 9))) (tLit (.int 2))) ρ (il (octs z k)) acc Q
  | 0, z, acc, _, h => by
    have e : il (bitsL z (8 * 0)) = [] := rfl
    rw [e, List.append_nil] at h
    exact h
  | k + 1, z, acc, hl, h => by
    rw [octs_cons]
    show (rRange (tLit (.int 8))) _ (fun es => acc.length + es.length ≤ 4096 ∧ compT 9 bYes _ _ es acc (fun acc' => comp2T 15 9 _ _ ρ (il (octs (z / 256) k)) acc' Q)) (fun _ => False)
    refine ⟨8, rfl, by decide, by simp [il]; omega, compT_range (f := fun i => .int (z / 2 ^ i % 2)) (fun i hi Q' hq' => ?_) ?_⟩
    · have e1 : ((i : Int).toNat) = i := Int.toNat_natCast i
      simp only [sCons, sNil, sRet, sAssign, sIf, sAssert, sAug, sFlow, tIte, tTest, tAnd, tOr, tBin, tNeg, tVar, tLit, tCall, lCons, lNil, tTup, tList, bindR, upd, rho0, dSub, dAddI, D.int.injEq, D.bool.injEq, D.list.injEq, D.str.injEq, D.ref.injEq, D.tup.injEq, exists_eq_left', exists_eq_left, exists_and_left, true_and, and_true, reduceIte, Nat.reduceEqDiff, Option.some.injEq, Sl.val.injEq, Flw.ret.injEq, List.cons.injEq, dEq_ii, dEq_ss, dEq_ll, dNe_ii, dNe_ss, dNe_bb, dNe_ll, Sl.own.injEq, dMod, dFdiv, dPow, e1]
      have hp := pow2_pos i
      have hb : z % 256 / 2 ^ i % 2 = z / 2 ^ i % 2 := mod_bit (n := 8) z hi
      have hl : ((2 : Int) ^ i).natAbs.log2 < 9000 := pow8l i hi
      refine ⟨Int.natCast_nonneg _, pow_le6 hi, by decide, hl, fun q => absurd q (Int.ne_of_gt hp), fun _ => ⟨fun q => absurd q (by decide), fun _ => ?_⟩⟩
      rw [fd_p _ (Int.le_of_lt hp), fm_p _ (by decide), hb]
      exact hq'
    · have e1 : (List.range 8).map (fun i => D.int (z / 2 ^ i % 2)) = il (bitsL z 8) := by unfold il bitsL; rw [List.map_map]; rfl
      rw [e1]
      refine bits_comp k (z / 256) _ (by rw [List.length_append, il_len, bitsL_len]; omega) ?_
      rw [List.append_assoc, ← il_app, ← bitsL_byte]
      exact h
section
variable {Ω : Wd} (hΩ : Ω.K = K0 Ω.w.params)
include hΩ
end
end Mine
end
section
open PySem PySem.W PyProof.Rows PySem.Calls
set_option Elab.async false
set_option linter.all false
set_option autoImplicit false
set_option maxRecDepth 100000
namespace Mine
theorem sh_lt {k : Nat} (hk : Kd k) (y : Int) : sh k y < 8 * k ∧ ((sh k y : Nat) : Int) = y % 256 % (8 * (k : Int)) := by
  have hd : (8 * (k : Int)) ∣ 256 := by
    rcases hk with rfl | rfl | rfl
    · exact ⟨32, rfl⟩
    · exact ⟨16, rfl⟩
    · exact ⟨4, rfl⟩
  have h0 : 0 < 8 * (k : Int) := by have := (kd_le hk).1; omega
  have e : ((8 * k : Nat) : Int) = 8 * (k : Int) := rfl
  have h1 := Int.emod_lt_of_pos y h0
  have h2 := Int.emod_nonneg y (Int.ne_of_gt h0)
  unfold sh
  rw [e, Int.emod_emod_of_dvd _ hd, Int.toNat_of_nonneg h2]
  exact ⟨(Int.toNat_lt h2).mpr h1, rfl⟩
theorem far_bit {x : Int} {n j : Nat} (h : n ≤ j) (h0 : -2 ^ n ≤ x) (h1 : x < 2 ^ n) : x / 2 ^ j = if x < 0 then -1 else 0 := by
  obtain ⟨m, rfl⟩ : ∃ m, j = n + m := ⟨j - n, by omega⟩
  have hp := pow2_pos n
  have hq := pow2_pos m
  have hle : (2 : Int) ^ n ≤ 2 ^ (n + m) := by
    rw [Int.pow_add]
    have : (2 : Int) ^ n * 1 ≤ 2 ^ n * 2 ^ m := Int.mul_le_mul_of_nonneg_left (by omega) (by omega)
    omega
  have hpp := pow2_pos (n + m)
  rw [Int.ediv_eq_iff_of_pos hpp]
  split <;> constructor <;> omega
theorem eq_ii {Q : D → Prop} {E : Nat → Prop} {x y : Int} (h : Q (.bool (x == y))) : dEq (.int x) (.int y) Q E := by rw [dEq_ii]; exact h
section
variable {ρ : Rho} {E : Nat → Prop} {i : Nat}
theorem t_in {Q : Bool → Prop} {a : Nat} (h : ρ i = some (.val (.str a))) (hq : Q ([5, 6].contains a)) : tTest (tBin dIn (tVar i) (tList (lCons (tLit (.str 5)) (lCons (tLit (.str 6)) lNil)))) ρ Q E := by
  simp only [sCons, sNil, sRet, sAssign, sIf, sAssert, sAug, sFlow, tIte, tTest, tAnd, tOr, tBin, tNeg, tVar, tLit, tCall, lCons, lNil, tTup, tList, bindR, upd, rho0, dSub, dAddI, D.int.injEq, D.bool.injEq, D.list.injEq, D.str.injEq, D.ref.injEq, D.tup.injEq, exists_eq_left', exists_eq_left, exists_and_left, true_and, and_true, reduceIte, Nat.reduceEqDiff, Option.some.injEq, Sl.val.injEq, Flw.ret.injEq, List.cons.injEq, dEq_ii, dEq_ss, dEq_ll, dNe_ii, dNe_ss, dNe_bb, dNe_ll, Sl.own.injEq, h]
  exact ⟨sz_ok (by decide), a, [5, 6], rfl, rfl, _, rfl, hq⟩
theorem sd {n m : Nat} (h : n < m + 1) (hn : n ≠ m) : n < m := Nat.lt_of_le_of_ne (Nat.le_of_lt_succ h) hn
theorem from10 {nm : Nat} (h0 : nm ≠ 0) (h1 : nm ≠ 1) (h2 : nm ≠ 2) (h3 : nm ≠ 3) (h4 : nm ≠ 4) (h5 : nm ≠ 5) (h6 : nm ≠ 6) (h7 : nm ≠ 7) (h8 : nm ≠ 8) (h9 : nm ≠ 9) : 10 ≤ nm :=
  Nat.le_of_not_lt fun q => Nat.not_lt_zero _ (sd (sd (sd (sd (sd (sd (sd (sd (sd (sd q h9) h8) h7) h6) h5) h4) h3) h2) h1) h0)
theorem no_eq {a b : Nat} (h : a ≠ b) : (a == b) = false := by simpa using h
theorem r71_sum {k : Nat} {sg : Bool} (hk : Kd k) {x y : Int} (hx : InK k sg x) (hy : InK k sg y) : R71 (x + y) ∧ R71 (x - y) := by
  have a := ink_bd hk hx
  have b := ink_bd hk hy
  unfold R71
  constructor <;> omega
end
theorem acc0 {k : Nat} (h : 1 ≤ k ∧ k ≤ 8) : ([] : List D).length + 8 * k ≤ 4000 := by rw [List.length_nil, Nat.zero_add]; exact Nat.le_trans (le64 h) (by decide)
theorem k8_ne {k : Nat} (h : 1 ≤ k ∧ k ≤ 8) : (8 : Int) * (k : Int) ≠ 0 := by omega
theorem k8_nn {k : Nat} : 0 ≤ (8 : Int) * (k : Int) := by omega
theorem k8_lt {k : Nat} (h : 1 ≤ k ∧ k ≤ 8) : 8 * k - 1 < 8 * k := by omega
theorem k8_pred {k : Nat} (h : 1 ≤ k ∧ k ≤ 8) : (8 : Int) * (k : Int) - 1 = ((8 * k - 1 : Nat) : Int) := by omega
theorem sub_nat {k s : Nat} (h : s < 8 * k) : (8 : Int) * (k : Int) - (s : Int) = ((8 * k - s : Nat) : Int) := by omega
theorem len_shl {k s : Nat} {x o : Int} (h : 1 ≤ k ∧ k ≤ 8) (hs : s < 8 * k) : (List.replicate s o).length + ((bitsL x (8 * k)).take (8 * k - s)).length ≤ 4096 := by
  rw [List.length_replicate, List.length_take, bitsL_len]; omega
theorem len_shr {k s : Nat} {x o : Int} (h : 1 ≤ k ∧ k ≤ 8) (hs : s < 8 * k) : ((bitsL x (8 * k)).drop s).length + (List.replicate s o).length ≤ 4096 := by
  rw [List.length_replicate, List.length_drop, bitsL_len]; omega
theorem len_rot {k s t : Nat} {x : Int} (h : 1 ≤ k ∧ k ≤ 8) : ((bitsL x (8 * k)).drop s).length + ((bitsL x (8 * k)).take t).length ≤ 4096 := by
  rw [List.length_drop, List.length_take, bitsL_len]; omega
theorem last3 {nm : Nat} (h : nm < 15) (h9 : 10 ≤ nm) (h10 : nm ≠ 10) (h11 : nm ≠ 11) : nm = 12 ∨ nm = 13 ∨ nm = 14 := by omega
section
variable {Ω : Wd} (hΩ : Ω.K = K0 Ω.w.params)
include hΩ
set_option maxHeartbeats 2000000 in
theorem sp379 : Sp Ω 5 379 g379 := sp_fn (fk379 hΩ) (dv379 hΩ ((sp331 hΩ).mono (by decide)).h ((sp367 hΩ).mono (by decide)).h ((sp317 hΩ).mono (by decide)).h ((sp374 hΩ).mono (by decide)).h ((sp355 hΩ).mono (by decide)).h ((sp338 hΩ).mono (by decide)).h ((sp345 hΩ).mono (by decide)).h ((sp350 hΩ).mono (by decide)).h) fun ds Q E hds => by
  obtain ⟨nm, x, y, k, sg, e, hnm, hk, hx7, hx9, hy, hsg, hq⟩ := hds
  subst e
  refine ⟨rfl, ?_⟩
  have hk9 := kd_le hk
  have hy7 := ink_r71 hk hy
  unfold T379
  refine s_str (nm := nm) rfl (fun h9 => ?_) (fun h9 => ?_)
  · subst h9
    exact ⟨_, rfl, _, rfl, _, rfl, x, k, sg, rfl, hk, hx7, _, rfl, hq⟩
  have hx := hx9 h9
  have hs := r71_sum hk hx hy
  refine s_str (nm := nm) rfl (fun h0 => ?_) (fun h0 => ?_)
  · subst h0
    exact ⟨_, rfl, _, rfl, x, y, 0, rfl, _, rfl, _, rfl, row (x + y + 0), x + y + 0, k, sg, rfl, hk, row_ge hk9, row_le, octs_take _ (k_le9 hk9), _, rfl, by rw [Int.add_zero]; exact hq⟩
  refine s_str (nm := nm) rfl (fun h1 => ?_) (fun h1 => ?_)
  · subst h1
    exact ⟨_, rfl, _, rfl, y, rfl, x, -y, 0, rfl, _, rfl, _, rfl, row (x + -y + 0), x + -y + 0, k, sg, rfl, hk, row_ge hk9, row_le, octs_take _ (k_le9 hk9), _, rfl, by rw [Int.add_zero, ← Int.sub_eq_add_neg]; exact hq⟩
  refine s_str (nm := nm) rfl (fun h3 => ?_) (fun h3 => ?_)
  · subst h3
    exact ⟨_, rfl, _, rfl, x, y, 0, rfl, _, rfl, _, rfl, x + y + 0, k, sg, rfl, hk, by rw [Int.add_zero]; exact hs.1, _, rfl, by rw [Int.add_zero]; exact hq⟩
  refine s_str (nm := nm) rfl (fun h4 => ?_) (fun h4 => ?_)
  · subst h4
    exact ⟨_, rfl, _, rfl, y, rfl, x, -y, 0, rfl, _, rfl, _, rfl, x + -y + 0, k, sg, rfl, hk, by rw [Int.add_zero, ← Int.sub_eq_add_neg]; exact hs.2, _, rfl, by rw [Int.add_zero, ← Int.sub_eq_add_neg]; exact hq⟩
  refine s_str (nm := nm) rfl (fun h2 => ?_) (fun h2 => ?_)
  · subst h2
    exact ⟨_, rfl, _, rfl, _, rfl, x, y, k, rfl, hk, _, rfl, _, rfl, octs (x * y) k, x * y, k, sg, rfl, hk, octs_ge, octs_le hk9, octs_take _ (Nat.le_refl _), _, rfl, hq⟩
  by_cases h56 : nm = 5 ∨ nm = 6
  · refine t_in (i := 21) (a := nm) rfl ?_
    have : [5, 6].contains nm = true := by rcases h56 with rfl | rfl <;> rfl
    rw [this]
    have hr : res nm k sg x y = rq nm k sg x y := by rcases h56 with rfl | rfl <;> rfl
    rw [hr] at hq
    exact ⟨_, rfl, _, rfl, _, rfl, _, rfl, _, rfl, nm, x, y, k, sg, rfl, h56, hk, hx, hy, _, rfl, hq⟩
  have hni : [5, 6].contains nm = false := by
    simp only [not_or] at h56
    simp [List.contains_cons, h56.1, h56.2]
  refine s_ifF (fun K hK => t_in (i := 21) (a := nm) rfl (by rw [hni]; exact hK)) ?_
  have hsl := sh_lt hk y
  have fin : ∀ (ρ : Rho) (v : Int), ρ 20 = some (.val (.list (il (bitsL v (8 * k))))) → ρ 10 = some (.val (.int (k : Int))) → ρ 11 = some (.val (.bool sg)) → ∀ K : D → Prop, K (.list (il (row (wrapv k sg v)))) →
      tCall g331 (lCons (tCall g367 (lCons (tVar 20) (lCons (tVar 10) lNil))) (lCons (tVar 10) (lCons (tVar 11) lNil))) ρ K E := fun ρ v h20 h10 h11 K hK =>
    ⟨_, h20, _, h10, v, k, rfl, hk, _, h10, _, h11, octs v k, v, k, sg, rfl, hk, octs_ge, octs_le hk9, octs_take _ (Nat.le_refl _), hK⟩
  refine s_as (v := .int (8 * (k : Int))) (fun K hK => ⟨_, rfl, 8, (k : Int), rfl, rfl, mul8 hk9, hK⟩) ?_
  refine s_as (v := .list (il (bitsL x (8 * k)))) (fun K hK => ⟨_, rfl, _, rfl, (k : Int), rfl, il (row x), rfl, row_sz, _, rfl, by
    rw [pick_take, show (row x).take k = octs x k from octs_take x (k_le9 hk9)]
    exact bits_comp k x [] (acc0 hk9) (by rw [List.nil_append]; exact hK)⟩) ?_
  refine s_as (v := .int (sh k y : Nat)) (fun K hK => ⟨_, rfl, idx_row (E := E) 0 rfl (by decide) ⟨_, rfl, _, _, rfl, rfl, fun q => absurd q (k8_ne hk9), fun _ => by
    rw [fm_p _ k8_nn, Int.pow_zero, Int.ediv_one, ← hsl.2]
    exact hK⟩⟩) ?_
  have hbl : (il (bitsL x (8 * k))).length ≤ sizeLine := bits_sz hk9
  have e8 : (8 : Int) * (k : Int) - ((sh k y : Nat) : Int) = ((8 * k - sh k y : Nat) : Int) := sub_nat hsl.1
  have h256 : sh k y ≤ 256 := Nat.le_trans (Nat.le_of_lt hsl.1) (Nat.le_trans (le64 hk9) (by decide))
  by_cases h7 : nm = 7
  · subst h7
    refine s_ifAy (v := .list (il (bitsL (x * 2 ^ sh k y) (8 * k)))) (t_str' rfl rfl) (fun K hK => ⟨sz_ok (by decide), _, rfl, mulL_one (sh k y) rfl h256 ⟨_, rfl, _, rfl, _, rfl, _, _, rfl, rfl, _, rfl, _, rfl, hbl, by
      rw [e8, pick_take]
      refine addL_il (len_shl hk9 hsl.1) ?_
      rw [bits_shl _ (Nat.le_of_lt hsl.1)]
      exact hK⟩⟩) ?_
    exact fin _ _ rfl rfl rfl _ ⟨_, rfl, hq⟩
  refine s_ifE (t_str' rfl (no_eq h7)) ?_
  by_cases h8 : nm = 8
  · subst h8
    have go : ∀ o : Int, (∀ j, 8 * k ≤ j → x / 2 ^ j % 2 = o) → ∀ K : D → Prop, K (.list (il (bitsL (x / 2 ^ sh k y) (8 * k)))) →
        dMulL (.list [.int o]) (.int (sh k y : Nat)) (fun b => dAddL (.list (il ((bitsL x (8 * k)).drop (sh k y)))) b K E) E := fun o ho K hK => by
      refine mulL_one (sh k y) rfl h256 (addL_il (len_shr hk9 hsl.1) ?_)
      rw [bits_shr _ hsl.1 o ho]
      exact hK
    refine s_ifAy (v := .list (il (bitsL (x / 2 ^ sh k y) (8 * k)))) (t_str' rfl rfl) (fun K hK => ⟨_, rfl, _, rfl, _, rfl, _, rfl, hbl, ?_⟩) ?_
    · rw [pick_drop]
      cases sg with
      | false =>
        refine ⟨_, rfl, _, rfl, sz_ok (by simp), _, rfl, go 0 (fun j hj => ?_) _ hK⟩
        have hx0 := ink_u hx
        rw [far_bit (n := 8 * k) hj (Int.le_trans (Int.neg_nonpos_of_nonneg (Int.le_of_lt (pow2_pos _))) hx0.1) hx0.2, if_neg (Int.not_lt.mpr hx0.1)]
        rfl
      | true =>
        have hx0 := ink_s hx
        refine ⟨_, rfl, _, rfl, _, rfl, _, rfl, _, _, rfl, rfl, idx_il (E := E) (8 * k - 1) _ (k8_pred hk9) (bitsL_get x (k8_lt hk9)) (bits_lt hk9) ⟨sz_ok (by simp), _, rfl, go (x / 2 ^ (8 * k - 1) % 2) (fun j hj => ?_) _ hK⟩⟩
        rw [far_bit (n := 8 * k - 1) (Nat.le_trans (Nat.sub_le _ _) hj) hx0.1 hx0.2, far_bit (n := 8 * k - 1) (Nat.le_refl _) hx0.1 hx0.2]
    exact fin _ _ rfl rfl rfl _ ⟨_, rfl, hq⟩
  refine s_ifE (t_str' rfl (no_eq h8)) ?_
  have hu : 10 ≤ nm := from10 h0 h1 h2 h3 h4 (fun e => h56 (.inl e)) (fun e => h56 (.inr e)) h7 h8 h9
  have hsg' := hsg hu
  subst hsg'
  have hx0 := ink_u hx
  by_cases h10 : nm = 10
  · subst h10
    refine s_ifAy (v := .list (il (bitsL (rotv x (sh k y) (8 * k)) (8 * k)))) (t_str' rfl rfl) (fun K hK => ⟨_, rfl, _, rfl, _, rfl, _, _, rfl, rfl, _, rfl, _, rfl, hbl, _, rfl, _, rfl, _, rfl, _, _, rfl, rfl, _, rfl, _, rfl, hbl, by
      rw [e8, pick_take, pick_drop]
      refine addL_il (len_rot hk9) ?_
      rw [bits_rotl _ (Nat.le_of_lt hsl.1) hx0.1 hx0.2]
      exact hK⟩) ?_
    exact fin _ _ rfl rfl rfl _ ⟨_, rfl, hq⟩
  refine s_ifE (t_str' rfl (no_eq h10)) ?_
  by_cases h11 : nm = 11
  · subst h11
    refine s_ifAy (v := .list (il (bitsL (rotv x (8 * k - sh k y) (8 * k)) (8 * k)))) (t_str' rfl rfl) (fun K hK => ⟨_, rfl, _, rfl, _, rfl, _, rfl, hbl, _, rfl, _, rfl, _, rfl, _, rfl, hbl, by
      rw [pick_take, pick_drop]
      refine addL_il (len_rot hk9) ?_
      have := bits_rotl x (t := 8 * k - sh k y) (L := 8 * k) (Nat.sub_le _ _) hx0.1 hx0.2
      rw [Nat.sub_sub_self (Nat.le_of_lt hsl.1)] at this
      rw [this]
      exact hK⟩) ?_
    exact fin _ _ rfl rfl rfl _ ⟨_, rfl, hq⟩
  refine s_ifE (t_str' rfl (no_eq h11)) ?_
  have hb : ∀ i, i < 8 * k → ∀ (ρ : Rho), ρ 20 = some (.val (.list (il (bitsL x (8 * k))))) → ρ 9 = some (.val (.int (i : Int))) → ∀ Q' : Bool → Prop, Q' (x / 2 ^ i % 2 == 1) → tTest (tBin dEq (tBin dIdx (tVar 20) (tVar 9)) (tLit (.int 1))) ρ Q' (fun _ => False) := fun i hi ρ h20 h9 Q' hq' => by
    refine ⟨_, h20, _, h9, idx_il i _ rfl (bitsL_get x hi) (bits_lt hk9) ?_⟩
    simp only [tLit]
    exact eq_ii ⟨_, rfl, hq'⟩
  simp only [sCons, sRet, sNil]
  refine ⟨_, rfl, 8 * k, by simp, by omega, by rw [il_len]; simp; omega, compT_filter (8 * k) (p := fun i => x / 2 ^ i % 2 == 1) (fun i hi Q' hq' => hb i hi _ rfl rfl Q' hq') (fun i hi Q' hq' => ⟨_, rfl, hq'⟩) _ [] (fun i hi => List.mem_range.mp hi) ?_⟩
  rw [List.nil_append, show List.map (fun i : Nat => (i : Int)) (List.filter (fun i : Nat => x / 2 ^ i % 2 == 1) (List.range (8 * k))) = ones x (8 * k) from rfl]
  have hlen : (ones x (8 * k)).length ≤ 64 := by rw [pc_len]; exact Nat.le_trans (pc_le x (8 * k)) (le64 hk9)
  have hM : ∀ M, M ∈ -1 :: ones x (8 * k) → (∀ a ∈ -1 :: ones x (8 * k), a ≤ M) → M = ((8 * k : Nat) : Int) - 1 - lz x (8 * k) := fun M h1 h2 => by
    have h := lz_max x (8 * k)
    have := h2 _ h.1
    have := h.2 _ h1
    omega
  have hm : ∀ M, M ∈ ones x (8 * k) ++ [((8 * k : Nat) : Int)] → (∀ a ∈ ones x (8 * k) ++ [((8 * k : Nat) : Int)], M ≤ a) → M = tz x (8 * k) 0 := fun M h1 h2 => by
    have h := tz_min x (8 * k)
    have := h2 _ h.1
    have := h.2 _ h1
    omega
  have cnt : ∀ ρ : Rho, ρ 24 = some (.val (.int (8 * (k : Int)))) → ρ 26 = some (.val (.list (il (ones x (8 * k))))) → ρ 21 = some (.val (.str nm)) → ∀ K : D → Prop, K ((res nm k false x y).due) →
      tCall g317 (lCons (tDictIdx (pCons 12 (tBin dSub (tBin dSub (tVar 24) (tLit (.int 1))) (tCall fMaxL (lCons (tBin dAddL (tList (lCons (tNeg (tLit (.int 1))) lNil)) (tVar 26)) lNil))) (pCons 13 (tCall fMinL (lCons (tBin dAddL (tVar 26) (tList (lCons (tVar 24) lNil))) lNil)) (pCons 14 (tCall fLen (lCons (tVar 26) lNil)) pNil))) (tVar 21)) lNil) ρ K E := fun ρ h24 h26 h21 K hK => by
    refine ⟨_, h24, _, _, rfl, rfl, 1, rfl, sz_ok (by simp), _, h26, addL_il (a := [-1]) (by simp; omega) ⟨_, rfl, by simp, fun M h1 h2 => ?_⟩⟩
    obtain rfl := hM M h1 h2
    refine ⟨_, _, rfl, rfl, _, h26, _, h24, sz_ok (by simp), addL_il (b := [8 * (k : Int)]) (by simp; omega) ⟨_, rfl, by simp, fun M' h1' h2' => ?_⟩⟩
    have e8' : (8 : Int) * (k : Int) = ((8 * k : Nat) : Int) := by omega
    rw [e8'] at h1' h2'
    obtain rfl := hm M' h1' h2'
    have lz1 := lz_le x (8 * k)
    have tz1 := tz_le x (8 * k) 0
    have pc1 := pc_le x (8 * k)
    refine ⟨_, h26, _, rfl, by rw [il_len]; omega, (show nodupB [tx 12, tx 13, tx 14] = true by decide +kernel), _, h21, nm, ?_⟩
    have hc := last3 hnm hu h10 h11
    rcases hc with rfl | rfl | rfl
    · refine ⟨_, rfl, rfl, _, rfl, by unfold R71; omega, ?_⟩
      rw [show 8 * (k : Int) - 1 - (((8 * k : Nat) : Int) - 1 - (lz x (8 * k) : Int)) = (lz x (8 * k) : Int) by omega]
      exact hK
    · exact ⟨_, rfl, rfl, _, rfl, by unfold R71; omega, hK⟩
    · refine ⟨_, rfl, rfl, _, rfl, by unfold R71; rw [il_len]; omega, ?_⟩
      rw [il_len, pc_len]
      exact hK
  exact cnt _ rfl rfl rfl _ ⟨_, rfl, hq⟩
end
end Mine
end
section
open PySem PySem.W PyProof.Rows PySem.Calls
set_option Elab.async false
set_option linter.all false
set_option autoImplicit false
set_option maxRecDepth 100000
namespace Mine
structure IOk (Ω : Wd) (a : Addr) (k : Nat) (sg : Bool) : Prop where
  kd : Kd k
  bl : AttrOk Ω a (Str.ofString "bits_length") ((8 * k : Nat) : Int)
  by1 : AttrOk Ω a (Str.ofString "byte_length") ((k : Nat) : Int)
  msk : AttrOk Ω a (Str.ofString "mask") (2 ^ (8 * k) - 1)
  ms : AttrOk Ω a (Str.ofString "mask_sign") (2 ^ (8 * k - 1))
  mx : AttrOk Ω a (Str.ofString "max") (hiv k sg)
  mn : AttrOk Ω a (Str.ofString "min") (lov k sg)
structure MI (Ω : Wd) (a : Addr) : Prop where
  from_bytearray : ∀ {n : Nat} {τ : FT}, Sp Ω n 35 τ → MethOk Ω n a (Str.ofString "from_bytearray") τ
  into_bytearray : ∀ {n : Nat} {τ : FT}, Sp Ω n 42 τ → MethOk Ω n a (Str.ofString "into_bytearray") τ
  fit : ∀ {n : Nat} {τ : FT}, Sp Ω n 49 τ → MethOk Ω n a (Str.ofString "fit") τ
  sat : ∀ {n : Nat} {τ : FT}, Sp Ω n 56 τ → MethOk Ω n a (Str.ofString "sat") τ
  add : ∀ {n : Nat} {τ : FT}, Sp Ω n 63 τ → MethOk Ω n a (Str.ofString "add") τ
  add_sat : ∀ {n : Nat} {τ : FT}, Sp Ω n 70 τ → MethOk Ω n a (Str.ofString "add_sat") τ
  sub : ∀ {n : Nat} {τ : FT}, Sp Ω n 77 τ → MethOk Ω n a (Str.ofString "sub") τ
  sub_sat : ∀ {n : Nat} {τ : FT}, Sp Ω n 84 τ → MethOk Ω n a (Str.ofString "sub_sat") τ
  mul : ∀ {n : Nat} {τ : FT}, Sp Ω n 91 τ → MethOk Ω n a (Str.ofString "mul") τ
  div : ∀ {n : Nat} {τ : FT}, Sp Ω n 98 τ → MethOk Ω n a (Str.ofString "div") τ
  rem : ∀ {n : Nat} {τ : FT}, Sp Ω n 105 τ → MethOk Ω n a (Str.ofString "rem") τ
  shl : ∀ {n : Nat} {τ : FT}, Sp Ω n 112 τ → MethOk Ω n a (Str.ofString "shl") τ
  shr : ∀ {n : Nat} {τ : FT}, Sp Ω n 119 τ → MethOk Ω n a (Str.ofString "shr") τ
structure NI (Ω : Wd) (a : Addr) : Prop where
  into : ∀ {n : Nat} {τ : FT}, SpecN Ω n (.ref 42) τ → MethOkN Ω n a (Str.ofString "into_bytearray") τ
structure MU (Ω : Wd) (a : Addr) : Prop where
  from_bytearray : ∀ {n : Nat} {τ : FT}, Sp Ω n 147 τ → MethOk Ω n a (Str.ofString "from_bytearray") τ
  into_bytearray : ∀ {n : Nat} {τ : FT}, Sp Ω n 154 τ → MethOk Ω n a (Str.ofString "into_bytearray") τ
  fit : ∀ {n : Nat} {τ : FT}, Sp Ω n 161 τ → MethOk Ω n a (Str.ofString "fit") τ
  sat : ∀ {n : Nat} {τ : FT}, Sp Ω n 168 τ → MethOk Ω n a (Str.ofString "sat") τ
  add : ∀ {n : Nat} {τ : FT}, Sp Ω n 175 τ → MethOk Ω n a (Str.ofString "add") τ
  add_sat : ∀ {n : Nat} {τ : FT}, Sp Ω n 182 τ → MethOk Ω n a (Str.ofString "add_sat") τ
  sub : ∀ {n : Nat} {τ : FT}, Sp Ω n 189 τ → MethOk Ω n a (Str.ofString "sub") τ
  sub_sat : ∀ {n : Nat} {τ : FT}, Sp Ω n 196 τ → MethOk Ω n a (Str.ofString "sub_sat") τ
  mul : ∀ {n : Nat} {τ : FT}, Sp Ω n 203 τ → MethOk Ω n a (Str.ofString "mul") τ
  div : ∀ {n : Nat} {τ : FT}, Sp Ω n 210 τ → MethOk Ω n a (Str.ofString "div") τ
  rem : ∀ {n : Nat} {τ : FT}, Sp Ω n 217 τ → MethOk Ω n a (Str.ofString "rem") τ
  shl : ∀ {n : Nat} {τ : FT}, Sp Ω n 224 τ → MethOk Ω n a (Str.ofString "shl") τ
  shr : ∀ {n : Nat} {τ : FT}, Sp Ω n 231 τ → MethOk Ω n a (Str.ofString "shr") τ
  rotl : ∀ {n : Nat} {τ : FT}, Sp Ω n 238 τ → MethOk Ω n a (Str.ofString "rotl") τ
  rotr : ∀ {n : Nat} {τ : FT}, Sp Ω n 245 τ → MethOk Ω n a (Str.ofString "rotr") τ
  clz : ∀ {n : Nat} {τ : FT}, Sp Ω n 252 τ → MethOk Ω n a (Str.ofString "clz") τ
  ctz : ∀ {n : Nat} {τ : FT}, Sp Ω n 259 τ → MethOk Ω n a (Str.ofString "ctz") τ
  popcnt : ∀ {n : Nat} {τ : FT}, Sp Ω n 266 τ → MethOk Ω n a (Str.ofString "popcnt") τ
structure NU (Ω : Wd) (a : Addr) : Prop where
  into : ∀ {n : Nat} {τ : FT}, SpecN Ω n (.ref 154) τ → MethOkN Ω n a (Str.ofString "into_bytearray") τ
section
variable {Ω : Wd} (hΩ : Ω.K = K0 Ω.w.params)
include hΩ
theorem cmI_all : (plainGet Ω.K 122 (Str.ofString "from_bytearray") = true ∧ findIn Ω.K (.ref 122) (Str.ofString "from_bytearray") = some (some (.ref 35)) ∧ isFn Ω.K (.ref 35) = true ∧ keepIn Ω.K (.ref 35) = true) ∧
    (plainGet Ω.K 122 (Str.ofString "into_bytearray") = true ∧ findIn Ω.K (.ref 122) (Str.ofString "into_bytearray") = some (some (.ref 42)) ∧ isFn Ω.K (.ref 42) = true ∧ keepIn Ω.K (.ref 42) = true) ∧
    (plainGet Ω.K 122 (Str.ofString "fit") = true ∧ findIn Ω.K (.ref 122) (Str.ofString "fit") = some (some (.ref 49)) ∧ isFn Ω.K (.ref 49) = true ∧ keepIn Ω.K (.ref 49) = true) ∧
    (plainGet Ω.K 122 (Str.ofString "sat") = true ∧ findIn Ω.K (.ref 122) (Str.ofString "sat") = some (some (.ref 56)) ∧ isFn Ω.K (.ref 56) = true ∧ keepIn Ω.K (.ref 56) = true) ∧
    (plainGet Ω.K 122 (Str.ofString "add") = true ∧ findIn Ω.K (.ref 122) (Str.ofString "add") = some (some (.ref 63)) ∧ isFn Ω.K (.ref 63) = true ∧ keepIn Ω.K (.ref 63) = true) ∧
    (plainGet Ω.K 122 (Str.ofString "add_sat") = true ∧ findIn Ω.K (.ref 122) (Str.ofString "add_sat") = some (some (.ref 70)) ∧ isFn Ω.K (.ref 70) = true ∧ keepIn Ω.K (.ref 70) = true) ∧
    (plainGet Ω.K 122 (Str.ofString "sub") = true ∧ findIn Ω.K (.ref 122) (Str.ofString "sub") = some (some (.ref 77)) ∧ isFn Ω.K (.ref 77) = true ∧ keepIn Ω.K (.ref 77) = true) ∧
    (plainGet Ω.K 122 (Str.ofString "sub_sat") = true ∧ findIn Ω.K (.ref 122) (Str.ofString "sub_sat") = some (some (.ref 84)) ∧ isFn Ω.K (.ref 84) = true ∧ keepIn Ω.K (.ref 84) = true) ∧
    (plainGet Ω.K 122 (Str.ofString "mul") = true ∧ findIn Ω.K (.ref 122) (Str.ofString "mul") = some (some (.ref 91)) ∧ isFn Ω.K (.ref 91) = true ∧ keepIn Ω.K (.ref 91) = true) ∧
    (plainGet Ω.K 122 (Str.ofString "div") = true ∧ findIn Ω.K (.ref 122) (Str.ofString "div") = some (some (.ref 98)) ∧ isFn Ω.K (.ref 98) = true ∧ keepIn Ω.K (.ref 98) = true) ∧
    (plainGet Ω.K 122 (Str.ofString "rem") = true ∧ findIn Ω.K (.ref 122) (Str.ofString "rem") = some (some (.ref 105)) ∧ isFn Ω.K (.ref 105) = true ∧ keepIn Ω.K (.ref 105) = true) ∧
    (plainGet Ω.K 122 (Str.ofString "shl") = true ∧ findIn Ω.K (.ref 122) (Str.ofString "shl") = some (some (.ref 112)) ∧ isFn Ω.K (.ref 112) = true ∧ keepIn Ω.K (.ref 112) = true) ∧
    (plainGet Ω.K 122 (Str.ofString "shr") = true ∧ findIn Ω.K (.ref 122) (Str.ofString "shr") = some (some (.ref 119)) ∧ isFn Ω.K (.ref 119) = true ∧ keepIn Ω.K (.ref 119) = true) ∧
    (plainGet Ω.K 122 (Str.ofString "bits_length") = true ∧ hasDictIn Ω.K 122 = true ∧ findIn Ω.K (.ref 122) (Str.ofString "bits_length") = some none ∧ noGet Ω.K none = true) ∧
    (plainGet Ω.K 122 (Str.ofString "byte_length") = true ∧ hasDictIn Ω.K 122 = true ∧ findIn Ω.K (.ref 122) (Str.ofString "byte_length") = some none ∧ noGet Ω.K none = true) ∧
    (plainGet Ω.K 122 (Str.ofString "mask") = true ∧ hasDictIn Ω.K 122 = true ∧ findIn Ω.K (.ref 122) (Str.ofString "mask") = some none ∧ noGet Ω.K none = true) ∧
    (plainGet Ω.K 122 (Str.ofString "mask_sign") = true ∧ hasDictIn Ω.K 122 = true ∧ findIn Ω.K (.ref 122) (Str.ofString "mask_sign") = some none ∧ noGet Ω.K none = true) ∧
    (plainGet Ω.K 122 (Str.ofString "max") = true ∧ hasDictIn Ω.K 122 = true ∧ findIn Ω.K (.ref 122) (Str.ofString "max") = some none ∧ noGet Ω.K none = true) ∧
    (plainGet Ω.K 122 (Str.ofString "min") = true ∧ hasDictIn Ω.K 122 = true ∧ findIn Ω.K (.ref 122) (Str.ofString "min") = some none ∧ noGet Ω.K none = true) := by
  rw [hΩ]
  exact ⟨⟨rfl, rfl, rfl, rfl⟩, ⟨rfl, rfl, rfl, rfl⟩, ⟨rfl, rfl, rfl, rfl⟩, ⟨rfl, rfl, rfl, rfl⟩, ⟨rfl, rfl, rfl, rfl⟩, ⟨rfl, rfl, rfl, rfl⟩, ⟨rfl, rfl, rfl, rfl⟩, ⟨rfl, rfl, rfl, rfl⟩, ⟨rfl, rfl, rfl, rfl⟩, ⟨rfl, rfl, rfl, rfl⟩, ⟨rfl, rfl, rfl, rfl⟩, ⟨rfl, rfl, rfl, rfl⟩, ⟨rfl, rfl, rfl, rfl⟩, ⟨rfl, rfl, rfl, rfl⟩, ⟨rfl, rfl, rfl, rfl⟩, ⟨rfl, rfl, rfl, rfl⟩, ⟨rfl, rfl, rfl, rfl⟩, ⟨rfl, rfl, rfl, rfl⟩, ⟨rfl, rfl, rfl, rfl⟩⟩
theorem cmI_from_bytearray : plainGet Ω.K 122 (Str.ofString "from_bytearray") = true ∧ findIn Ω.K (.ref 122) (Str.ofString "from_bytearray") = some (some (.ref 35)) ∧ isFn Ω.K (.ref 35) = true ∧ keepIn Ω.K (.ref 35) = true := (cmI_all hΩ).1
theorem cmI_into_bytearray : plainGet Ω.K 122 (Str.ofString "into_bytearray") = true ∧ findIn Ω.K (.ref 122) (Str.ofString "into_bytearray") = some (some (.ref 42)) ∧ isFn Ω.K (.ref 42) = true ∧ keepIn Ω.K (.ref 42) = true := (cmI_all hΩ).2.1
theorem cmI_fit : plainGet Ω.K 122 (Str.ofString "fit") = true ∧ findIn Ω.K (.ref 122) (Str.ofString "fit") = some (some (.ref 49)) ∧ isFn Ω.K (.ref 49) = true ∧ keepIn Ω.K (.ref 49) = true := (cmI_all hΩ).2.2.1
theorem cmI_sat : plainGet Ω.K 122 (Str.ofString "sat") = true ∧ findIn Ω.K (.ref 122) (Str.ofString "sat") = some (some (.ref 56)) ∧ isFn Ω.K (.ref 56) = true ∧ keepIn Ω.K (.ref 56) = true := (cmI_all hΩ).2.2.2.1
theorem cmI_add : plainGet Ω.K 122 (Str.ofString "add") = true ∧ findIn Ω.K (.ref 122) (Str.ofString "add") = some (some (.ref 63)) ∧ isFn Ω.K (.ref 63) = true ∧ keepIn Ω.K (.ref 63) = true := (cmI_all hΩ).2.2.2.2.1
theorem cmI_add_sat : plainGet Ω.K 122 (Str.ofString "add_sat") = true ∧ findIn Ω.K (.ref 122) (Str.ofString "add_sat") = some (some (.ref 70)) ∧ isFn Ω.K (.ref 70) = true ∧ keepIn Ω.K (.ref 70) = true := (cmI_all hΩ).2.2.2.2.2.1
theorem cmI_sub : plainGet Ω.K 122 (Str.ofString "sub") = true ∧ findIn Ω.K (.ref 122) (Str.ofString "sub") = some (some (.ref 77)) ∧ isFn Ω.K (.ref 77) = true ∧ keepIn Ω.K (.ref 77) = true := (cmI_all hΩ).2.2.2.2.2.2.1
theorem cmI_sub_sat : plainGet Ω.K 122 (Str.ofString "sub_sat") = true ∧ findIn Ω.K (.ref 122) (Str.ofString "sub_sat") = some (some (.ref 84)) ∧ isFn Ω.K (.ref 84) = true ∧ keepIn Ω.K (.ref 84) = true := (cmI_all hΩ).2.2.2.2.2.2.2.1
theorem cmI_mul : plainGet Ω.K 122 (Str.ofString "mul") = true ∧ findIn Ω.K (.ref 122) (Str.ofString "mul") = some (some (.ref 91)) ∧ isFn Ω.K (.ref 91) = true ∧ keepIn Ω.K (.ref 91) = true := (cmI_all hΩ).2.2.2.2.2.2.2.2.1
theorem cmI_div : plainGet Ω.K 122 (Str.ofString "div") = true ∧ findIn Ω.K (.ref 122) (Str.ofString "div") = some (some (.ref 98)) ∧ isFn Ω.K (.ref 98) = true ∧ keepIn Ω.K (.ref 98) = true := (cmI_all hΩ).2.2.2.2.2.2.2.2.2.1
theorem cmI_rem : plainGet Ω.K 122 (Str.ofString "rem") = true ∧ findIn Ω.K (.ref 122) (Str.ofString "rem") = some (some (.ref 105)) ∧ isFn Ω.K (.ref 105) = true ∧ keepIn Ω.K (.ref 105) = true := (cmI_all hΩ).2.2.2.2.2.2.2.2.2.2.1
theorem cmI_shl : plainGet Ω.K 122 (Str.ofString "shl") = true ∧ findIn Ω.K (.ref 122) (Str.ofString "shl") = some (some (.ref 112)) ∧ isFn Ω.K (.ref 112) = true ∧ keepIn Ω.K (.ref 112) = true := (cmI_all hΩ).2.2.2.2.2.2.2.2.2.2.2.1
theorem cmI_shr : plainGet Ω.K 122 (Str.ofString "shr") = true ∧ findIn Ω.K (.ref 122) (Str.ofString "shr") = some (some (.ref 119)) ∧ isFn Ω.K (.ref 119) = true ∧ keepIn Ω.K (.ref 119) = true := (cmI_all hΩ).2.2.2.2.2.2.2.2.2.2.2.2.1
theorem caI_bl : plainGet Ω.K 122 (Str.ofString "bits_length") = true ∧ hasDictIn Ω.K 122 = true ∧ findIn Ω.K (.ref 122) (Str.ofString "bits_length") = some none ∧ noGet Ω.K none = true := (cmI_all hΩ).2.2.2.2.2.2.2.2.2.2.2.2.2.1
theorem caI_by1 : plainGet Ω.K 122 (Str.ofString "byte_length") = true ∧ hasDictIn Ω.K 122 = true ∧ findIn Ω.K (.ref 122) (Str.ofString "byte_length") = some none ∧ noGet Ω.K none = true := (cmI_all hΩ).2.2.2.2.2.2.2.2.2.2.2.2.2.2.1
theorem caI_msk : plainGet Ω.K 122 (Str.ofString "mask") = true ∧ hasDictIn Ω.K 122 = true ∧ findIn Ω.K (.ref 122) (Str.ofString "mask") = some none ∧ noGet Ω.K none = true := (cmI_all hΩ).2.2.2.2.2.2.2.2.2.2.2.2.2.2.2.1
theorem caI_ms : plainGet Ω.K 122 (Str.ofString "mask_sign") = true ∧ hasDictIn Ω.K 122 = true ∧ findIn Ω.K (.ref 122) (Str.ofString "mask_sign") = some none ∧ noGet Ω.K none = true := (cmI_all hΩ).2.2.2.2.2.2.2.2.2.2.2.2.2.2.2.2.1
theorem caI_mx : plainGet Ω.K 122 (Str.ofString "max") = true ∧ hasDictIn Ω.K 122 = true ∧ findIn Ω.K (.ref 122) (Str.ofString "max") = some none ∧ noGet Ω.K none = true := (cmI_all hΩ).2.2.2.2.2.2.2.2.2.2.2.2.2.2.2.2.2.1
theorem caI_mn : plainGet Ω.K 122 (Str.ofString "min") = true ∧ hasDictIn Ω.K 122 = true ∧ findIn Ω.K (.ref 122) (Str.ofString "min") = some none ∧ noGet Ω.K none = true := (cmI_all hΩ).2.2.2.2.2.2.2.2.2.2.2.2.2.2.2.2.2.2
theorem cmU_all : (plainGet Ω.K 269 (Str.ofString "from_bytearray") = true ∧ findIn Ω.K (.ref 269) (Str.ofString "from_bytearray") = some (some (.ref 147)) ∧ isFn Ω.K (.ref 147) = true ∧ keepIn Ω.K (.ref 147) = true) ∧
    (plainGet Ω.K 269 (Str.ofString "into_bytearray") = true ∧ findIn Ω.K (.ref 269) (Str.ofString "into_bytearray") = some (some (.ref 154)) ∧ isFn Ω.K (.ref 154) = true ∧ keepIn Ω.K (.ref 154) = true) ∧
    (plainGet Ω.K 269 (Str.ofString "fit") = true ∧ findIn Ω.K (.ref 269) (Str.ofString "fit") = some (some (.ref 161)) ∧ isFn Ω.K (.ref 161) = true ∧ keepIn Ω.K (.ref 161) = true) ∧
    (plainGet Ω.K 269 (Str.ofString "sat") = true ∧ findIn Ω.K (.ref 269) (Str.ofString "sat") = some (some (.ref 168)) ∧ isFn Ω.K (.ref 168) = true ∧ keepIn Ω.K (.ref 168) = true) ∧
    (plainGet Ω.K 269 (Str.ofString "add") = true ∧ findIn Ω.K (.ref 269) (Str.ofString "add") = some (some (.ref 175)) ∧ isFn Ω.K (.ref 175) = true ∧ keepIn Ω.K (.ref 175) = true) ∧
    (plainGet Ω.K 269 (Str.ofString "add_sat") = true ∧ findIn Ω.K (.ref 269) (Str.ofString "add_sat") = some (some (.ref 182)) ∧ isFn Ω.K (.ref 182) = true ∧ keepIn Ω.K (.ref 182) = true) ∧
    (plainGet Ω.K 269 (Str.ofString "sub") = true ∧ findIn Ω.K (.ref 269) (Str.ofString "sub") = some (some (.ref 189)) ∧ isFn Ω.K (.ref 189) = true ∧ keepIn Ω.K (.ref 189) = true) ∧
    (plainGet Ω.K 269 (Str.ofString "sub_sat") = true ∧ findIn Ω.K (.ref 269) (Str.ofString "sub_sat") = some (some (.ref 196)) ∧ isFn Ω.K (.ref 196) = true ∧ keepIn Ω.K (.ref 196) = true) ∧
    (plainGet Ω.K 269 (Str.ofString "mul") = true ∧ findIn Ω.K (.ref 269) (Str.ofString "mul") = some (some (.ref 203)) ∧ isFn Ω.K (.ref 203) = true ∧ keepIn Ω.K (.ref 203) = true) ∧
    (plainGet Ω.K 269 (Str.ofString "div") = true ∧ findIn Ω.K (.ref 269) (Str.ofString "div") = some (some (.ref 210)) ∧ isFn Ω.K (.ref 210) = true ∧ keepIn Ω.K (.ref 210) = true) ∧
    (plainGet Ω.K 269 (Str.ofString "rem") = true ∧ findIn Ω.K (.ref 269) (Str.ofString "rem") = some (some (.ref 217)) ∧ isFn Ω.K (.ref 217) = true ∧ keepIn Ω.K (.ref 217) = true) ∧
    (plainGet Ω.K 269 (Str.ofString "shl") = true ∧ findIn Ω.K (.ref 269) (Str.ofString "shl") = some (some (.ref 224)) ∧ isFn Ω.K (.ref 224) = true ∧ keepIn Ω.K (.ref 224) = true) ∧
    (plainGet Ω.K 269 (Str.ofString "shr") = true ∧ findIn Ω.K (.ref 269) (Str.ofString "shr") = some (some (.ref 231)) ∧ isFn Ω.K (.ref 231) = true ∧ keepIn Ω.K (.ref 231) = true) ∧
    (plainGet Ω.K 269 (Str.ofString "rotl") = true ∧ findIn Ω.K (.ref 269) (Str.ofString "rotl") = some (some (.ref 238)) ∧ isFn Ω.K (.ref 238) = true ∧ keepIn Ω.K (.ref 238) = true) ∧
    (plainGet Ω.K 269 (Str.ofString "rotr") = true ∧ findIn Ω.K (.ref 269) (Str.ofString "rotr") = some (some (.ref 245)) ∧ isFn Ω.K (.ref 245) = true ∧ keepIn Ω.K (.ref 245) = true) ∧
    (plainGet Ω.K 269 (Str.ofString "clz") = true ∧ findIn Ω.K (.ref 269) (Str.ofString "clz") = some (some (.ref 252)) ∧ isFn Ω.K (.ref 252) = true ∧ keepIn Ω.K (.ref 252) = true) ∧
    (plainGet Ω.K 269 (Str.ofString "ctz") = true ∧ findIn Ω.K (.ref 269) (Str.ofString "ctz") = some (some (.ref 259)) ∧ isFn Ω.K (.ref 259) = true ∧ keepIn Ω.K (.ref 259) = true) ∧
    (plainGet Ω.K 269 (Str.ofString "popcnt") = true ∧ findIn Ω.K (.ref 269) (Str.ofString "popcnt") = some (some (.ref 266)) ∧ isFn Ω.K (.ref 266) = true ∧ keepIn Ω.K (.ref 266) = true) ∧
    (plainGet Ω.K 269 (Str.ofString "bits_length") = true ∧ hasDictIn Ω.K 269 = true ∧ findIn Ω.K (.ref 269) (Str.ofString "bits_length") = some none ∧ noGet Ω.K none = true) ∧
    (plainGet Ω.K 269 (Str.ofString "byte_length") = true ∧ hasDictIn Ω.K 269 = true ∧ findIn Ω.K (.ref 269) (Str.ofString "byte_length") = some none ∧ noGet Ω.K none = true) ∧
    (plainGet Ω.K 269 (Str.ofString "mask") = true ∧ hasDictIn Ω.K 269 = true ∧ findIn Ω.K (.ref 269) (Str.ofString "mask") = some none ∧ noGet Ω.K none = true) ∧
    (plainGet Ω.K 269 (Str.ofString "mask_sign") = true ∧ hasDictIn Ω.K 269 = true ∧ findIn Ω.K (.ref 269) (Str.ofString "mask_sign") = some none ∧ noGet Ω.K none = true) ∧
    (plainGet Ω.K 269 (Str.ofString "max") = true ∧ hasDictIn Ω.K 269 = true ∧ findIn Ω.K (.ref 269) (Str.ofString "max") = some none ∧ noGet Ω.K none = true) ∧
    (plainGet Ω.K 269 (Str.ofString "min") = true ∧ hasDictIn Ω.K 269 = true ∧ findIn Ω.K (.ref 269) (Str.ofString "min") = some none ∧ noGet Ω.K none = true) := by
  rw [hΩ]
  exact ⟨⟨rfl, rfl, rfl, rfl⟩, ⟨rfl, rfl, rfl, rfl⟩, ⟨rfl, rfl, rfl, rfl⟩, ⟨rfl, rfl, rfl, rfl⟩, ⟨rfl, rfl, rfl, rfl⟩, ⟨rfl, rfl, rfl, rfl⟩, ⟨rfl, rfl, rfl, rfl⟩, ⟨rfl, rfl, rfl, rfl⟩, ⟨rfl, rfl, rfl, rfl⟩, ⟨rfl, rfl, rfl, rfl⟩, ⟨rfl, rfl, rfl, rfl⟩, ⟨rfl, rfl, rfl, rfl⟩, ⟨rfl, rfl, rfl, rfl⟩, ⟨rfl, rfl, rfl, rfl⟩, ⟨rfl, rfl, rfl, rfl⟩, ⟨rfl, rfl, rfl, rfl⟩, ⟨rfl, rfl, rfl, rfl⟩, ⟨rfl, rfl, rfl, rfl⟩, ⟨rfl, rfl, rfl, rfl⟩, ⟨rfl, rfl, rfl, rfl⟩, ⟨rfl, rfl, rfl, rfl⟩, ⟨rfl, rfl, rfl, rfl⟩, ⟨rfl, rfl, rfl, rfl⟩, ⟨rfl, rfl, rfl, rfl⟩⟩
theorem cmU_from_bytearray : plainGet Ω.K 269 (Str.ofString "from_bytearray") = true ∧ findIn Ω.K (.ref 269) (Str.ofString "from_bytearray") = some (some (.ref 147)) ∧ isFn Ω.K (.ref 147) = true ∧ keepIn Ω.K (.ref 147) = true := (cmU_all hΩ).1
theorem cmU_into_bytearray : plainGet Ω.K 269 (Str.ofString "into_bytearray") = true ∧ findIn Ω.K (.ref 269) (Str.ofString "into_bytearray") = some (some (.ref 154)) ∧ isFn Ω.K (.ref 154) = true ∧ keepIn Ω.K (.ref 154) = true := (cmU_all hΩ).2.1
theorem cmU_fit : plainGet Ω.K 269 (Str.ofString "fit") = true ∧ findIn Ω.K (.ref 269) (Str.ofString "fit") = some (some (.ref 161)) ∧ isFn Ω.K (.ref 161) = true ∧ keepIn Ω.K (.ref 161) = true := (cmU_all hΩ).2.2.1
theorem cmU_sat : plainGet Ω.K 269 (Str.ofString "sat") = true ∧ findIn Ω.K (.ref 269) (Str.ofString "sat") = some (some (.ref 168)) ∧ isFn Ω.K (.ref 168) = true ∧ keepIn Ω.K (.ref 168) = true := (cmU_all hΩ).2.2.2.1
theorem cmU_add : plainGet Ω.K 269 (Str.ofString "add") = true ∧ findIn Ω.K (.ref 269) (Str.ofString "add") = some (some (.ref 175)) ∧ isFn Ω.K (.ref 175) = true ∧ keepIn Ω.K (.ref 175) = true := (cmU_all hΩ).2.2.2.2.1
theorem cmU_add_sat : plainGet Ω.K 269 (Str.ofString "add_sat") = true ∧ findIn Ω.K (.ref 269) (Str.ofString "add_sat") = some (some (.ref 182)) ∧ isFn Ω.K (.ref 182) = true ∧ keepIn Ω.K (.ref 182) = true := (cmU_all hΩ).2.2.2.2.2.1
theorem cmU_sub : plainGet Ω.K 269 (Str.ofString "sub") = true ∧ findIn Ω.K (.ref 269) (Str.ofString "sub") = some (some (.ref 189)) ∧ isFn Ω.K (.ref 189) = true ∧ keepIn Ω.K (.ref 189) = true := (cmU_all hΩ).2.2.2.2.2.2.1
theorem cmU_sub_sat : plainGet Ω.K 269 (Str.ofString "sub_sat") = true ∧ findIn Ω.K (.ref 269) (Str.ofString "sub_sat") = some (some (.ref 196)) ∧ isFn Ω.K (.ref 196) = true ∧ keepIn Ω.K (.ref 196) = true := (cmU_all hΩ).2.2.2.2.2.2.2.1
theorem cmU_mul : plainGet Ω.K 269 (Str.ofString "mul") = true ∧ findIn Ω.K (.ref 269) (Str.ofString "mul") = some (some (.ref 203)) ∧ isFn Ω.K (.ref 203) = true ∧ keepIn Ω.K (.ref 203) = true := (cmU_all hΩ).2.2.2.2.2.2.2.2.1
theorem cmU_div : plainGet Ω.K 269 (Str.ofString "div") = true ∧ findIn Ω.K (.ref 269) (Str.ofString "div") = some (some (.ref 210)) ∧ isFn Ω.K (.ref 210) = true ∧ keepIn Ω.K (.ref 210) = true := (cmU_all hΩ).2.2.2.2.2.2.2.2.2.1
theorem cmU_rem : plainGet Ω.K 269 (Str.ofString "rem") = true ∧ findIn Ω.K (.ref 269) (Str.ofString "rem") = some (some (.ref 217)) ∧ isFn Ω.K (.ref 217) = true ∧ keepIn Ω.K (.ref 217) = true := (cmU_all hΩ).2.2.2.2.2.2.2.2.2.2.1
theorem cmU_shl : plainGet Ω.K 269 (Str.ofString "shl") = true ∧ findIn Ω.K (.ref 269) (Str.ofString "shl") = some (some (.ref 224)) ∧ isFn Ω.K (.ref 224) = true ∧ keepIn Ω.K (.ref 224) = true := (cmU_all hΩ).2.2.2.2.2.2.2.2.2.2.2.1
theorem cmU_shr : plainGet Ω.K 269 (Str.ofString "shr") = true ∧ findIn Ω.K (.ref 269) (Str.ofString "shr") = some (some (.ref 231)) ∧ isFn Ω.K (.ref 231) = true ∧ keepIn Ω.K (.ref 231) = true := (cmU_all hΩ).2.2.2.2.2.2.2.2.2.2.2.2.1
theorem cmU_rotl : plainGet Ω.K 269 (Str.ofString "rotl") = true ∧ findIn Ω.K (.ref 269) (Str.ofString "rotl") = some (some (.ref 238)) ∧ isFn Ω.K (.ref 238) = true ∧ keepIn Ω.K (.ref 238) = true := (cmU_all hΩ).2.2.2.2.2.2.2.2.2.2.2.2.2.1
theorem cmU_rotr : plainGet Ω.K 269 (Str.ofString "rotr") = true ∧ findIn Ω.K (.ref 269) (Str.ofString "rotr") = some (some (.ref 245)) ∧ isFn Ω.K (.ref 245) = true ∧ keepIn Ω.K (.ref 245) = true := (cmU_all hΩ).2.2.2.2.2.2.2.2.2.2.2.2.2.2.1
theorem cmU_clz : plainGet Ω.K 269 (Str.ofString "clz") = true ∧ findIn Ω.K (.ref 269) (Str.ofString "clz") = some (some (.ref 252)) ∧ isFn Ω.K (.ref 252) = true ∧ keepIn Ω.K (.ref 252) = true := (cmU_all hΩ).2.2.2.2.2.2.2.2.2.2.2.2.2.2.2.1
theorem cmU_ctz : plainGet Ω.K 269 (Str.ofString "ctz") = true ∧ findIn Ω.K (.ref 269) (Str.ofString "ctz") = some (some (.ref 259)) ∧ isFn Ω.K (.ref 259) = true ∧ keepIn Ω.K (.ref 259) = true := (cmU_all hΩ).2.2.2.2.2.2.2.2.2.2.2.2.2.2.2.2.1
theorem cmU_popcnt : plainGet Ω.K 269 (Str.ofString "popcnt") = true ∧ findIn Ω.K (.ref 269) (Str.ofString "popcnt") = some (some (.ref 266)) ∧ isFn Ω.K (.ref 266) = true ∧ keepIn Ω.K (.ref 266) = true := (cmU_all hΩ).2.2.2.2.2.2.2.2.2.2.2.2.2.2.2.2.2.1
theorem caU_bl : plainGet Ω.K 269 (Str.ofString "bits_length") = true ∧ hasDictIn Ω.K 269 = true ∧ findIn Ω.K (.ref 269) (Str.ofString "bits_length") = some none ∧ noGet Ω.K none = true := (cmU_all hΩ).2.2.2.2.2.2.2.2.2.2.2.2.2.2.2.2.2.2.1
theorem caU_by1 : plainGet Ω.K 269 (Str.ofString "byte_length") = true ∧ hasDictIn Ω.K 269 = true ∧ findIn Ω.K (.ref 269) (Str.ofString "byte_length") = some none ∧ noGet Ω.K none = true := (cmU_all hΩ).2.2.2.2.2.2.2.2.2.2.2.2.2.2.2.2.2.2.2.1
theorem caU_msk : plainGet Ω.K 269 (Str.ofString "mask") = true ∧ hasDictIn Ω.K 269 = true ∧ findIn Ω.K (.ref 269) (Str.ofString "mask") = some none ∧ noGet Ω.K none = true := (cmU_all hΩ).2.2.2.2.2.2.2.2.2.2.2.2.2.2.2.2.2.2.2.2.1
theorem caU_ms : plainGet Ω.K 269 (Str.ofString "mask_sign") = true ∧ hasDictIn Ω.K 269 = true ∧ findIn Ω.K (.ref 269) (Str.ofString "mask_sign") = some none ∧ noGet Ω.K none = true := (cmU_all hΩ).2.2.2.2.2.2.2.2.2.2.2.2.2.2.2.2.2.2.2.2.2.1
theorem caU_mx : plainGet Ω.K 269 (Str.ofString "max") = true ∧ hasDictIn Ω.K 269 = true ∧ findIn Ω.K (.ref 269) (Str.ofString "max") = some none ∧ noGet Ω.K none = true := (cmU_all hΩ).2.2.2.2.2.2.2.2.2.2.2.2.2.2.2.2.2.2.2.2.2.2.1
theorem caU_mn : plainGet Ω.K 269 (Str.ofString "min") = true ∧ hasDictIn Ω.K 269 = true ∧ findIn Ω.K (.ref 269) (Str.ofString "min") = some none ∧ noGet Ω.K none = true := (cmU_all hΩ).2.2.2.2.2.2.2.2.2.2.2.2.2.2.2.2.2.2.2.2.2.2.2
end
noncomputable def isSN : Option (Option Value) → Bool
  | some none => true
  | _ => false
theorem gl_of {names : List String} {es : List DictEntry} (h : (names.all fun m => isSN (getL (Str.ofString m) es)) = true) {m : String} (i : Nat) (hm : names[i]? = some m) : getL (Str.ofString m) es = some none := by
  have := List.all_eq_true.mp h m (List.mem_of_getElem? hm)
  revert this
  generalize getL (Str.ofString m) es = o
  intro this
  match o, this with
  | some none, _ => rfl
noncomputable def nmsI : List String := ["from_bytearray", "into_bytearray", "fit", "sat", "add", "add_sat", "sub", "sub_sat", "mul", "div", "rem", "shl", "shr"]
noncomputable def nmsU : List String := ["from_bytearray", "into_bytearray", "fit", "sat", "add", "add_sat", "sub", "sub_sat", "mul", "div", "rem", "shl", "shr", "rotl", "rotr", "clz", "ctz", "popcnt"]
theorem hg275 {P : Params} : (nmsI.all fun m => isSN (getL (Str.ofString m) (es274 P))) = true := by kernel_rfl
theorem hg281 {P : Params} : (nmsI.all fun m => isSN (getL (Str.ofString m) (es280 P))) = true := by kernel_rfl
theorem hg287 {P : Params} : (nmsI.all fun m => isSN (getL (Str.ofString m) (es286 P))) = true := by kernel_rfl
theorem hg278 {P : Params} : (nmsU.all fun m => isSN (getL (Str.ofString m) (es277 P))) = true := by kernel_rfl
theorem hg284 {P : Params} : (nmsU.all fun m => isSN (getL (Str.ofString m) (es283 P))) = true := by kernel_rfl
theorem hg290 {P : Params} : (nmsU.all fun m => isSN (getL (Str.ofString m) (es289 P))) = true := by kernel_rfl
section
variable {Ω : Wd} (hΩ : Ω.K = K0 Ω.w.params)
include hΩ
theorem mtI {a d : Addr} {es : List DictEntry} (hI : InstK Ω a 122 d es 6) (hg : (nmsI.all fun m => isSN (getL (Str.ofString m) es)) = true) : MI Ω a := ⟨fun h => ⟨122, d, es, 6, 35, hI, (cmI_from_bytearray hΩ).1, (cmI_from_bytearray hΩ).2.1, (cmI_from_bytearray hΩ).2.2.1, gl_of hg 0 rfl, (cmI_from_bytearray hΩ).2.2.2, h.h⟩,
  fun h => ⟨122, d, es, 6, 42, hI, (cmI_into_bytearray hΩ).1, (cmI_into_bytearray hΩ).2.1, (cmI_into_bytearray hΩ).2.2.1, gl_of hg 1 rfl, (cmI_into_bytearray hΩ).2.2.2, h.h⟩,
  fun h => ⟨122, d, es, 6, 49, hI, (cmI_fit hΩ).1, (cmI_fit hΩ).2.1, (cmI_fit hΩ).2.2.1, gl_of hg 2 rfl, (cmI_fit hΩ).2.2.2, h.h⟩,
  fun h => ⟨122, d, es, 6, 56, hI, (cmI_sat hΩ).1, (cmI_sat hΩ).2.1, (cmI_sat hΩ).2.2.1, gl_of hg 3 rfl, (cmI_sat hΩ).2.2.2, h.h⟩,
  fun h => ⟨122, d, es, 6, 63, hI, (cmI_add hΩ).1, (cmI_add hΩ).2.1, (cmI_add hΩ).2.2.1, gl_of hg 4 rfl, (cmI_add hΩ).2.2.2, h.h⟩,
  fun h => ⟨122, d, es, 6, 70, hI, (cmI_add_sat hΩ).1, (cmI_add_sat hΩ).2.1, (cmI_add_sat hΩ).2.2.1, gl_of hg 5 rfl, (cmI_add_sat hΩ).2.2.2, h.h⟩,
  fun h => ⟨122, d, es, 6, 77, hI, (cmI_sub hΩ).1, (cmI_sub hΩ).2.1, (cmI_sub hΩ).2.2.1, gl_of hg 6 rfl, (cmI_sub hΩ).2.2.2, h.h⟩,
  fun h => ⟨122, d, es, 6, 84, hI, (cmI_sub_sat hΩ).1, (cmI_sub_sat hΩ).2.1, (cmI_sub_sat hΩ).2.2.1, gl_of hg 7 rfl, (cmI_sub_sat hΩ).2.2.2, h.h⟩,
  fun h => ⟨122, d, es, 6, 91, hI, (cmI_mul hΩ).1, (cmI_mul hΩ).2.1, (cmI_mul hΩ).2.2.1, gl_of hg 8 rfl, (cmI_mul hΩ).2.2.2, h.h⟩,
  fun h => ⟨122, d, es, 6, 98, hI, (cmI_div hΩ).1, (cmI_div hΩ).2.1, (cmI_div hΩ).2.2.1, gl_of hg 9 rfl, (cmI_div hΩ).2.2.2, h.h⟩,
  fun h => ⟨122, d, es, 6, 105, hI, (cmI_rem hΩ).1, (cmI_rem hΩ).2.1, (cmI_rem hΩ).2.2.1, gl_of hg 10 rfl, (cmI_rem hΩ).2.2.2, h.h⟩,
  fun h => ⟨122, d, es, 6, 112, hI, (cmI_shl hΩ).1, (cmI_shl hΩ).2.1, (cmI_shl hΩ).2.2.1, gl_of hg 11 rfl, (cmI_shl hΩ).2.2.2, h.h⟩,
  fun h => ⟨122, d, es, 6, 119, hI, (cmI_shr hΩ).1, (cmI_shr hΩ).2.1, (cmI_shr hΩ).2.2.1, gl_of hg 12 rfl, (cmI_shr hΩ).2.2.2, h.h⟩⟩
theorem mnI {a d : Addr} {es : List DictEntry} (hI : InstK Ω a 122 d es 6) (hg : (nmsI.all fun m => isSN (getL (Str.ofString m) es)) = true) : NI Ω a := ⟨fun h => ⟨122, d, es, 6, 42, hI, (cmI_into_bytearray hΩ).1, (cmI_into_bytearray hΩ).2.1, (cmI_into_bytearray hΩ).2.2.1, gl_of hg 1 rfl, (cmI_into_bytearray hΩ).2.2.2, h⟩⟩
theorem mtU {a d : Addr} {es : List DictEntry} (hI : InstK Ω a 269 d es 6) (hg : (nmsU.all fun m => isSN (getL (Str.ofString m) es)) = true) : MU Ω a := ⟨fun h => ⟨269, d, es, 6, 147, hI, (cmU_from_bytearray hΩ).1, (cmU_from_bytearray hΩ).2.1, (cmU_from_bytearray hΩ).2.2.1, gl_of hg 0 rfl, (cmU_from_bytearray hΩ).2.2.2, h.h⟩,
  fun h => ⟨269, d, es, 6, 154, hI, (cmU_into_bytearray hΩ).1, (cmU_into_bytearray hΩ).2.1, (cmU_into_bytearray hΩ).2.2.1, gl_of hg 1 rfl, (cmU_into_bytearray hΩ).2.2.2, h.h⟩,
  fun h => ⟨269, d, es, 6, 161, hI, (cmU_fit hΩ).1, (cmU_fit hΩ).2.1, (cmU_fit hΩ).2.2.1, gl_of hg 2 rfl, (cmU_fit hΩ).2.2.2, h.h⟩,
  fun h => ⟨269, d, es, 6, 168, hI, (cmU_sat hΩ).1, (cmU_sat hΩ).2.1, (cmU_sat hΩ).2.2.1, gl_of hg 3 rfl, (cmU_sat hΩ).2.2.2, h.h⟩,
  fun h => ⟨269, d, es, 6, 175, hI, (cmU_add hΩ).1, (cmU_add hΩ).2.1, (cmU_add hΩ).2.2.1, gl_of hg 4 rfl, (cmU_add hΩ).2.2.2, h.h⟩,
  fun h => ⟨269, d, es, 6, 182, hI, (cmU_add_sat hΩ).1, (cmU_add_sat hΩ).2.1, (cmU_add_sat hΩ).2.2.1, gl_of hg 5 rfl, (cmU_add_sat hΩ).2.2.2, h.h⟩,
  fun h => ⟨269, d, es, 6, 189, hI, (cmU_sub hΩ).1, (cmU_sub hΩ).2.1, (cmU_sub hΩ).2.2.1, gl_of hg 6 rfl, (cmU_sub hΩ).2.2.2, h.h⟩,
  fun h => ⟨269, d, es, 6, 196, hI, (cmU_sub_sat hΩ).1, (cmU_sub_sat hΩ).2.1, (cmU_sub_sat hΩ).2.2.1, gl_of hg 7 rfl, (cmU_sub_sat hΩ).2.2.2, h.h⟩,
  fun h => ⟨269, d, es, 6, 203, hI, (cmU_mul hΩ).1, (cmU_mul hΩ).2.1, (cmU_mul hΩ).2.2.1, gl_of hg 8 rfl, (cmU_mul hΩ).2.2.2, h.h⟩,
  fun h => ⟨269, d, es, 6, 210, hI, (cmU_div hΩ).1, (cmU_div hΩ).2.1, (cmU_div hΩ).2.2.1, gl_of hg 9 rfl, (cmU_div hΩ).2.2.2, h.h⟩,
  fun h => ⟨269, d, es, 6, 217, hI, (cmU_rem hΩ).1, (cmU_rem hΩ).2.1, (cmU_rem hΩ).2.2.1, gl_of hg 10 rfl, (cmU_rem hΩ).2.2.2, h.h⟩,
  fun h => ⟨269, d, es, 6, 224, hI, (cmU_shl hΩ).1, (cmU_shl hΩ).2.1, (cmU_shl hΩ).2.2.1, gl_of hg 11 rfl, (cmU_shl hΩ).2.2.2, h.h⟩,
  fun h => ⟨269, d, es, 6, 231, hI, (cmU_shr hΩ).1, (cmU_shr hΩ).2.1, (cmU_shr hΩ).2.2.1, gl_of hg 12 rfl, (cmU_shr hΩ).2.2.2, h.h⟩,
  fun h => ⟨269, d, es, 6, 238, hI, (cmU_rotl hΩ).1, (cmU_rotl hΩ).2.1, (cmU_rotl hΩ).2.2.1, gl_of hg 13 rfl, (cmU_rotl hΩ).2.2.2, h.h⟩,
  fun h => ⟨269, d, es, 6, 245, hI, (cmU_rotr hΩ).1, (cmU_rotr hΩ).2.1, (cmU_rotr hΩ).2.2.1, gl_of hg 14 rfl, (cmU_rotr hΩ).2.2.2, h.h⟩,
  fun h => ⟨269, d, es, 6, 252, hI, (cmU_clz hΩ).1, (cmU_clz hΩ).2.1, (cmU_clz hΩ).2.2.1, gl_of hg 15 rfl, (cmU_clz hΩ).2.2.2, h.h⟩,
  fun h => ⟨269, d, es, 6, 259, hI, (cmU_ctz hΩ).1, (cmU_ctz hΩ).2.1, (cmU_ctz hΩ).2.2.1, gl_of hg 16 rfl, (cmU_ctz hΩ).2.2.2, h.h⟩,
  fun h => ⟨269, d, es, 6, 266, hI, (cmU_popcnt hΩ).1, (cmU_popcnt hΩ).2.1, (cmU_popcnt hΩ).2.2.1, gl_of hg 17 rfl, (cmU_popcnt hΩ).2.2.2, h.h⟩⟩
theorem mnU {a d : Addr} {es : List DictEntry} (hI : InstK Ω a 269 d es 6) (hg : (nmsU.all fun m => isSN (getL (Str.ofString m) es)) = true) : NU Ω a := ⟨fun h => ⟨269, d, es, 6, 154, hI, (cmU_into_bytearray hΩ).1, (cmU_into_bytearray hΩ).2.1, (cmU_into_bytearray hΩ).2.2.1, gl_of hg 1 rfl, (cmU_into_bytearray hΩ).2.2.2, h⟩⟩
theorem in275 : InstK Ω 275 122 274 (es274 Ω.w.params) 6 := ⟨by rw [hΩ]; exact rfl, by rw [hΩ]; exact rfl⟩
theorem io275 : IOk Ω 275 1 true := ⟨by unfold Kd; decide, ⟨122, 274, _, _, none, _, in275 hΩ, (caI_bl hΩ).1, (caI_bl hΩ).2.1, (caI_bl hΩ).2.2.1, (caI_bl hΩ).2.2.2, by exact rfl⟩,
  ⟨122, 274, _, _, none, _, in275 hΩ, (caI_by1 hΩ).1, (caI_by1 hΩ).2.1, (caI_by1 hΩ).2.2.1, (caI_by1 hΩ).2.2.2, by exact rfl⟩,
  ⟨122, 274, _, _, none, _, in275 hΩ, (caI_msk hΩ).1, (caI_msk hΩ).2.1, (caI_msk hΩ).2.2.1, (caI_msk hΩ).2.2.2, by exact rfl⟩,
  ⟨122, 274, _, _, none, _, in275 hΩ, (caI_ms hΩ).1, (caI_ms hΩ).2.1, (caI_ms hΩ).2.2.1, (caI_ms hΩ).2.2.2, by exact rfl⟩,
  ⟨122, 274, _, _, none, _, in275 hΩ, (caI_mx hΩ).1, (caI_mx hΩ).2.1, (caI_mx hΩ).2.2.1, (caI_mx hΩ).2.2.2, by exact rfl⟩,
  ⟨122, 274, _, _, none, _, in275 hΩ, (caI_mn hΩ).1, (caI_mn hΩ).2.1, (caI_mn hΩ).2.2.1, (caI_mn hΩ).2.2.2, by exact rfl⟩⟩
theorem mt275 : MI Ω 275 := mtI hΩ (in275 hΩ) hg275
theorem mn275 : NI Ω 275 := mnI hΩ (in275 hΩ) hg275
theorem in281 : InstK Ω 281 122 280 (es280 Ω.w.params) 6 := ⟨by rw [hΩ]; exact rfl, by rw [hΩ]; exact rfl⟩
theorem io281 : IOk Ω 281 2 true := ⟨by unfold Kd; decide, ⟨122, 280, _, _, none, _, in281 hΩ, (caI_bl hΩ).1, (caI_bl hΩ).2.1, (caI_bl hΩ).2.2.1, (caI_bl hΩ).2.2.2, by exact rfl⟩,
  ⟨122, 280, _, _, none, _, in281 hΩ, (caI_by1 hΩ).1, (caI_by1 hΩ).2.1, (caI_by1 hΩ).2.2.1, (caI_by1 hΩ).2.2.2, by exact rfl⟩,
  ⟨122, 280, _, _, none, _, in281 hΩ, (caI_msk hΩ).1, (caI_msk hΩ).2.1, (caI_msk hΩ).2.2.1, (caI_msk hΩ).2.2.2, by exact rfl⟩,
  ⟨122, 280, _, _, none, _, in281 hΩ, (caI_ms hΩ).1, (caI_ms hΩ).2.1, (caI_ms hΩ).2.2.1, (caI_ms hΩ).2.2.2, by exact rfl⟩,
  ⟨122, 280, _, _, none, _, in281 hΩ, (caI_mx hΩ).1, (caI_mx hΩ).2.1, (caI_mx hΩ).2.2.1, (caI_mx hΩ).2.2.2, by exact rfl⟩,
  ⟨122, 280, _, _, none, _, in281 hΩ, (caI_mn hΩ).1, (caI_mn hΩ).2.1, (caI_mn hΩ).2.2.1, (caI_mn hΩ).2.2.2, by exact rfl⟩⟩
theorem mt281 : MI Ω 281 := mtI hΩ (in281 hΩ) hg281
theorem mn281 : NI Ω 281 := mnI hΩ (in281 hΩ) hg281
theorem in287 : InstK Ω 287 122 286 (es286 Ω.w.params) 6 := ⟨by rw [hΩ]; exact rfl, by rw [hΩ]; exact rfl⟩
theorem io287 : IOk Ω 287 8 true := ⟨by unfold Kd; decide, ⟨122, 286, _, _, none, _, in287 hΩ, (caI_bl hΩ).1, (caI_bl hΩ).2.1, (caI_bl hΩ).2.2.1, (caI_bl hΩ).2.2.2, by exact rfl⟩,
  ⟨122, 286, _, _, none, _, in287 hΩ, (caI_by1 hΩ).1, (caI_by1 hΩ).2.1, (caI_by1 hΩ).2.2.1, (caI_by1 hΩ).2.2.2, by exact rfl⟩,
  ⟨122, 286, _, _, none, _, in287 hΩ, (caI_msk hΩ).1, (caI_msk hΩ).2.1, (caI_msk hΩ).2.2.1, (caI_msk hΩ).2.2.2, by exact rfl⟩,
  ⟨122, 286, _, _, none, _, in287 hΩ, (caI_ms hΩ).1, (caI_ms hΩ).2.1, (caI_ms hΩ).2.2.1, (caI_ms hΩ).2.2.2, by exact rfl⟩,
  ⟨122, 286, _, _, none, _, in287 hΩ, (caI_mx hΩ).1, (caI_mx hΩ).2.1, (caI_mx hΩ).2.2.1, (caI_mx hΩ).2.2.2, by exact rfl⟩,
  ⟨122, 286, _, _, none, _, in287 hΩ, (caI_mn hΩ).1, (caI_mn hΩ).2.1, (caI_mn hΩ).2.2.1, (caI_mn hΩ).2.2.2, by exact rfl⟩⟩
theorem mt287 : MI Ω 287 := mtI hΩ (in287 hΩ) hg287
theorem mn287 : NI Ω 287 := mnI hΩ (in287 hΩ) hg287
theorem in278 : InstK Ω 278 269 277 (es277 Ω.w.params) 6 := ⟨by rw [hΩ]; exact rfl, by rw [hΩ]; exact rfl⟩
theorem io278 : IOk Ω 278 1 false := ⟨by unfold Kd; decide, ⟨269, 277, _, _, none, _, in278 hΩ, (caU_bl hΩ).1, (caU_bl hΩ).2.1, (caU_bl hΩ).2.2.1, (caU_bl hΩ).2.2.2, by exact rfl⟩,
  ⟨269, 277, _, _, none, _, in278 hΩ, (caU_by1 hΩ).1, (caU_by1 hΩ).2.1, (caU_by1 hΩ).2.2.1, (caU_by1 hΩ).2.2.2, by exact rfl⟩,
  ⟨269, 277, _, _, none, _, in278 hΩ, (caU_msk hΩ).1, (caU_msk hΩ).2.1, (caU_msk hΩ).2.2.1, (caU_msk hΩ).2.2.2, by exact rfl⟩,
  ⟨269, 277, _, _, none, _, in278 hΩ, (caU_ms hΩ).1, (caU_ms hΩ).2.1, (caU_ms hΩ).2.2.1, (caU_ms hΩ).2.2.2, by exact rfl⟩,
  ⟨269, 277, _, _, none, _, in278 hΩ, (caU_mx hΩ).1, (caU_mx hΩ).2.1, (caU_mx hΩ).2.2.1, (caU_mx hΩ).2.2.2, by exact rfl⟩,
  ⟨269, 277, _, _, none, _, in278 hΩ, (caU_mn hΩ).1, (caU_mn hΩ).2.1, (caU_mn hΩ).2.2.1, (caU_mn hΩ).2.2.2, by exact rfl⟩⟩
theorem mt278 : MU Ω 278 := mtU hΩ (in278 hΩ) hg278
theorem mn278 : NU Ω 278 := mnU hΩ (in278 hΩ) hg278
theorem in284 : InstK Ω 284 269 283 (es283 Ω.w.params) 6 := ⟨by rw [hΩ]; exact rfl, by rw [hΩ]; exact rfl⟩
theorem io284 : IOk Ω 284 2 false := ⟨by unfold Kd; decide, ⟨269, 283, _, _, none, _, in284 hΩ, (caU_bl hΩ).1, (caU_bl hΩ).2.1, (caU_bl hΩ).2.2.1, (caU_bl hΩ).2.2.2, by exact rfl⟩,
  ⟨269, 283, _, _, none, _, in284 hΩ, (caU_by1 hΩ).1, (caU_by1 hΩ).2.1, (caU_by1 hΩ).2.2.1, (caU_by1 hΩ).2.2.2, by exact rfl⟩,
  ⟨269, 283, _, _, none, _, in284 hΩ, (caU_msk hΩ).1, (caU_msk hΩ).2.1, (caU_msk hΩ).2.2.1, (caU_msk hΩ).2.2.2, by exact rfl⟩,
  ⟨269, 283, _, _, none, _, in284 hΩ, (caU_ms hΩ).1, (caU_ms hΩ).2.1, (caU_ms hΩ).2.2.1, (caU_ms hΩ).2.2.2, by exact rfl⟩,
  ⟨269, 283, _, _, none, _, in284 hΩ, (caU_mx hΩ).1, (caU_mx hΩ).2.1, (caU_mx hΩ).2.2.1, (caU_mx hΩ).2.2.2, by exact rfl⟩,
  ⟨269, 283, _, _, none, _, in284 hΩ, (caU_mn hΩ).1, (caU_mn hΩ).2.1, (caU_mn hΩ).2.2.1, (caU_mn hΩ).2.2.2, by exact rfl⟩⟩
theorem mt284 : MU Ω 284 := mtU hΩ (in284 hΩ) hg284
theorem mn284 : NU Ω 284 := mnU hΩ (in284 hΩ) hg284
theorem in290 : InstK Ω 290 269 289 (es289 Ω.w.params) 6 := ⟨by rw [hΩ]; exact rfl, by rw [hΩ]; exact rfl⟩
theorem io290 : IOk Ω 290 8 false := ⟨by unfold Kd; decide, ⟨269, 289, _, _, none, _, in290 hΩ, (caU_bl hΩ).1, (caU_bl hΩ).2.1, (caU_bl hΩ).2.2.1, (caU_bl hΩ).2.2.2, by exact rfl⟩,
  ⟨269, 289, _, _, none, _, in290 hΩ, (caU_by1 hΩ).1, (caU_by1 hΩ).2.1, (caU_by1 hΩ).2.2.1, (caU_by1 hΩ).2.2.2, by exact rfl⟩,
  ⟨269, 289, _, _, none, _, in290 hΩ, (caU_msk hΩ).1, (caU_msk hΩ).2.1, (caU_msk hΩ).2.2.1, (caU_msk hΩ).2.2.2, by exact rfl⟩,
  ⟨269, 289, _, _, none, _, in290 hΩ, (caU_ms hΩ).1, (caU_ms hΩ).2.1, (caU_ms hΩ).2.2.1, (caU_ms hΩ).2.2.2, by exact rfl⟩,
  ⟨269, 289, _, _, none, _, in290 hΩ, (caU_mx hΩ).1, (caU_mx hΩ).2.1, (caU_mx hΩ).2.2.1, (caU_mx hΩ).2.2.2, by exact rfl⟩,
  ⟨269, 289, _, _, none, _, in290 hΩ, (caU_mn hΩ).1, (caU_mn hΩ).2.1, (caU_mn hΩ).2.2.1, (caU_mn hΩ).2.2.2, by exact rfl⟩⟩
theorem mt290 : MU Ω 290 := mtU hΩ (in290 hΩ) hg290
theorem mn290 : NU Ω 290 := mnU hΩ (in290 hΩ) hg290
end
end Mine
end
section
open PySem PySem.W PyProof.Rows PySem.Calls
set_option Elab.async false
set_option linter.all false
set_option autoImplicit false
set_option maxRecDepth 100000
namespace Mine
noncomputable def gfitI (Ω : Wd) : FT := fun ds Q _ => ∃ a k n, ds = [.ref a, .int n] ∧ IOk Ω a k true ∧ Q (.int (wrapv k true n))
noncomputable def gfitU (Ω : Wd) : FT := fun ds Q _ => ∃ a k n, ds = [.ref a, .int n] ∧ IOk Ω a k false ∧ Q (.int (wrapv k false n))
noncomputable def gsat (Ω : Wd) (sg : Bool) : FT := fun ds Q _ => ∃ a k n, ds = [.ref a, .int n] ∧ IOk Ω a k sg ∧ Q (.int (clampv k sg n))
theorem fit_eq {k : Nat} (hk : Kd k) (n : Int) : n % 2 ^ (8 * k) - (n % 2 ^ (8 * k) / 2 ^ (8 * k - 1) % 2) * 2 ^ (8 * k - 1) * 2 ^ 1 = wrapv k true n := by
  obtain ⟨G, h0, h1, e1, e2, e3, e4⟩ := kd_pow hk
  have hM : 0 < 256 * G := by omega
  unfold wrapv
  rw [if_pos rfl, e2, e3, ← Int.emod_add_emod]
  have a := Int.emod_nonneg n (Int.ne_of_gt hM)
  have b := Int.emod_lt_of_pos n hM
  generalize n % (256 * G) = v at *
  by_cases hv : v < 128 * G
  · rw [Int.ediv_eq_zero_of_lt a hv, Int.emod_eq_of_lt (a := v + 128 * G) (b := 256 * G) (by omega) (by omega)]
    show v - 0 * (128 * G) * 2 = _
    omega
  · rw [(Int.ediv_eq_iff_of_pos (by omega)).mpr (show 1 * (128 * G) ≤ v ∧ v < 1 * (128 * G) + 128 * G by omega), show v + 128 * G = (v - 128 * G) + 256 * G * 1 by omega, Int.add_mul_emod_self_left, Int.emod_eq_of_lt (a := v - 128 * G) (b := 256 * G) (by omega) (by omega)]
    show v - 1 * (128 * G) * 2 = _
    omega
theorem sat_eq {k : Nat} {sg : Bool} (hk : Kd k) (n : Int) : (if lov k sg > (if hiv k sg < n then hiv k sg else n) then lov k sg else (if hiv k sg < n then hiv k sg else n)) = clampv k sg n := by
  have : lov k sg ≤ hiv k sg := by unfold lov hiv; rcases hk with rfl | rfl | rfl <;> cases sg <;> decide
  unfold clampv
  (repeat' split) <;> omega
section
variable {Ω : Wd} (hΩ : Ω.K = K0 Ω.w.params)
include hΩ
theorem sp49 : Sp Ω 1 49 (gfitI Ω) := sp_fn (fk49 hΩ) (dv49 hΩ) fun ds Q E hds => by
  obtain ⟨a, k, n, e, io, hq⟩ := hds
  subst e
  refine ⟨rfl, ?_⟩
  have hk := io.kd
  simp only [T49, sCons, sRet, sNil, sAssign]
  refine ⟨_, rfl, _, rfl, a, _, rfl, io.msk, _, _, rfl, rfl, ⟨_, rfl, _, rfl, _, rfl, a, _, rfl, io.ms, _, _, rfl, rfl, _, _, rfl, rfl, by decide, ?_, _, _, rfl, rfl, ⟨_, rfl, _, rfl, ?_⟩⟩⟩
  · rw [kbt_bit, kbt_mask]
    have : Builtin.Int.intBits (n % 2 ^ (8 * k) / 2 ^ (8 * k - 1) % 2 * 2 ^ (8 * k - 1)) ≤ 70 := bits_fit (k := 1) (by rcases hk with rfl | rfl | rfl <;> omega)
    omega
  · rw [kbt_bit, kbt_mask]
    rw [← fit_eq hk] at hq
    exact hq
theorem sp161 : Sp Ω 1 161 (gfitU Ω) := sp_fn (fk161 hΩ) (dv161 hΩ) fun ds Q E hds => by
  obtain ⟨a, k, n, e, io, hq⟩ := hds
  subst e
  refine ⟨rfl, ?_⟩
  simp only [T161, sCons, sRet, sNil, sAssign]
  refine ⟨_, rfl, _, rfl, a, _, rfl, io.msk, _, _, rfl, rfl, _, rfl, ?_⟩
  rw [kbt_mask]
  exact hq
theorem sp56 : Sp Ω 1 56 (gsat Ω true) := sp_fn (fk56 hΩ) (dv56 hΩ) fun ds Q E hds => by
  obtain ⟨a, k, n, e, io, hq⟩ := hds
  subst e
  refine ⟨rfl, ?_⟩
  simp only [T56, sCons, sRet, sNil, sAssign]
  rw [← sat_eq io.kd] at hq
  exact ⟨_, rfl, _, rfl, a, _, rfl, io.mx, _, _, rfl, _, rfl, a, _, rfl, io.mn, _, _, rfl, _, rfl, hq⟩
theorem sp168 : Sp Ω 1 168 (gsat Ω false) := sp_fn (fk168 hΩ) (dv168 hΩ) fun ds Q E hds => by
  obtain ⟨a, k, n, e, io, hq⟩ := hds
  subst e
  refine ⟨rfl, ?_⟩
  simp only [T168, sCons, sRet, sNil, sAssign]
  rw [← sat_eq io.kd] at hq
  exact ⟨_, rfl, _, rfl, a, _, rfl, io.mx, _, _, rfl, _, rfl, a, _, rfl, io.mn, _, _, rfl, _, rfl, hq⟩
end
end Mine
end
section
open PySem PySem.W PyProof.Rows PySem.Calls
set_option Elab.async false
set_option linter.all false
set_option autoImplicit false
set_option maxRecDepth 100000
namespace Mine
noncomputable def Res.go : Res → (D → Prop) → (Nat → Prop) → Prop
  | .ok v, Q, _ => Q (.int v)
  | .no c, _, E => if c = 15 then E 0 else E 1
noncomputable def gopI (Ω : Wd) (nm : Nat) : FT := fun ds Q E => ∃ a k x y, ds = [.ref a, .int x, .int y] ∧ IOk Ω a k true ∧ MI Ω a ∧ InK k true x ∧ InK k true y ∧ (res nm k true x y).go Q E
noncomputable def gopU (Ω : Wd) (nm : Nat) : FT := fun ds Q E => ∃ a k x y, ds = [.ref a, .int x, .int y] ∧ IOk Ω a k false ∧ MU Ω a ∧ InK k false x ∧ InK k false y ∧ (res nm k false x y).go Q E
section
variable {Ω : Wd} (hΩ : Ω.K = K0 Ω.w.params)
include hΩ
theorem sp63 : Sp Ω 2 63 (gopI Ω 0) := sp_fn (fk63 hΩ) (dv63 hΩ) fun ds Q E hds => by
  obtain ⟨a, k, x, y, e, io, M, hx, hy, hq⟩ := hds
  subst e
  refine ⟨rfl, ?_⟩
  simp only [T63, sCons, sRet, sNil, sAssign]
  exact ⟨_, rfl, a, _, rfl, M.fit (sp49 hΩ), _, rfl, _, rfl, _, _, rfl, rfl, a, k, _, rfl, io, _, rfl, hq⟩
theorem sp70 : Sp Ω 2 70 (gopI Ω 3) := sp_fn (fk70 hΩ) (dv70 hΩ) fun ds Q E hds => by
  obtain ⟨a, k, x, y, e, io, M, hx, hy, hq⟩ := hds
  subst e
  refine ⟨rfl, ?_⟩
  simp only [T70, sCons, sRet, sNil, sAssign]
  exact ⟨_, rfl, a, _, rfl, M.sat (sp56 hΩ), _, rfl, _, rfl, _, _, rfl, rfl, a, k, _, rfl, io, _, rfl, hq⟩
theorem sp77 : Sp Ω 2 77 (gopI Ω 1) := sp_fn (fk77 hΩ) (dv77 hΩ) fun ds Q E hds => by
  obtain ⟨a, k, x, y, e, io, M, hx, hy, hq⟩ := hds
  subst e
  refine ⟨rfl, ?_⟩
  simp only [T77, sCons, sRet, sNil, sAssign]
  exact ⟨_, rfl, a, _, rfl, M.fit (sp49 hΩ), _, rfl, _, rfl, _, _, rfl, rfl, a, k, _, rfl, io, _, rfl, hq⟩
theorem sp84 : Sp Ω 2 84 (gopI Ω 4) := sp_fn (fk84 hΩ) (dv84 hΩ) fun ds Q E hds => by
  obtain ⟨a, k, x, y, e, io, M, hx, hy, hq⟩ := hds
  subst e
  refine ⟨rfl, ?_⟩
  simp only [T84, sCons, sRet, sNil, sAssign]
  exact ⟨_, rfl, a, _, rfl, M.sat (sp56 hΩ), _, rfl, _, rfl, _, _, rfl, rfl, a, k, _, rfl, io, _, rfl, hq⟩
theorem sp91 : Sp Ω 2 91 (gopI Ω 2) := sp_fn (fk91 hΩ) (dv91 hΩ) fun ds Q E hds => by
  obtain ⟨a, k, x, y, e, io, M, hx, hy, hq⟩ := hds
  subst e
  refine ⟨rfl, ?_⟩
  have hx7 := ink_r71 io.kd hx
  have hy7 := ink_r71 io.kd hy
  unfold R71 at hx7 hy7
  simp only [T91, sCons, sRet, sNil, sAssign]
  exact ⟨_, rfl, a, _, rfl, M.fit (sp49 hΩ), _, rfl, _, rfl, _, _, rfl, rfl, mulOk (by omega) (by omega) (by omega) (by omega), a, k, _, rfl, io, _, rfl, hq⟩
theorem sp175 : Sp Ω 2 175 (gopU Ω 0) := sp_fn (fk175 hΩ) (dv175 hΩ) fun ds Q E hds => by
  obtain ⟨a, k, x, y, e, io, M, hx, hy, hq⟩ := hds
  subst e
  refine ⟨rfl, ?_⟩
  simp only [T175, sCons, sRet, sNil, sAssign]
  exact ⟨_, rfl, a, _, rfl, M.fit (sp161 hΩ), _, rfl, _, rfl, _, _, rfl, rfl, a, k, _, rfl, io, _, rfl, hq⟩
theorem sp182 : Sp Ω 2 182 (gopU Ω 3) := sp_fn (fk182 hΩ) (dv182 hΩ) fun ds Q E hds => by
  obtain ⟨a, k, x, y, e, io, M, hx, hy, hq⟩ := hds
  subst e
  refine ⟨rfl, ?_⟩
  simp only [T182, sCons, sRet, sNil, sAssign]
  exact ⟨_, rfl, a, _, rfl, M.sat (sp168 hΩ), _, rfl, _, rfl, _, _, rfl, rfl, a, k, _, rfl, io, _, rfl, hq⟩
theorem sp189 : Sp Ω 2 189 (gopU Ω 1) := sp_fn (fk189 hΩ) (dv189 hΩ) fun ds Q E hds => by
  obtain ⟨a, k, x, y, e, io, M, hx, hy, hq⟩ := hds
  subst e
  refine ⟨rfl, ?_⟩
  simp only [T189, sCons, sRet, sNil, sAssign]
  exact ⟨_, rfl, a, _, rfl, M.fit (sp161 hΩ), _, rfl, _, rfl, _, _, rfl, rfl, a, k, _, rfl, io, _, rfl, hq⟩
theorem sp196 : Sp Ω 2 196 (gopU Ω 4) := sp_fn (fk196 hΩ) (dv196 hΩ) fun ds Q E hds => by
  obtain ⟨a, k, x, y, e, io, M, hx, hy, hq⟩ := hds
  subst e
  refine ⟨rfl, ?_⟩
  simp only [T196, sCons, sRet, sNil, sAssign]
  exact ⟨_, rfl, a, _, rfl, M.sat (sp168 hΩ), _, rfl, _, rfl, _, _, rfl, rfl, a, k, _, rfl, io, _, rfl, hq⟩
theorem sp203 : Sp Ω 2 203 (gopU Ω 2) := sp_fn (fk203 hΩ) (dv203 hΩ) fun ds Q E hds => by
  obtain ⟨a, k, x, y, e, io, M, hx, hy, hq⟩ := hds
  subst e
  refine ⟨rfl, ?_⟩
  have hx7 := ink_r71 io.kd hx
  have hy7 := ink_r71 io.kd hy
  unfold R71 at hx7 hy7
  simp only [T203, sCons, sRet, sNil, sAssign]
  exact ⟨_, rfl, a, _, rfl, M.fit (sp161 hΩ), _, rfl, _, rfl, _, _, rfl, rfl, mulOk (by omega) (by omega) (by omega) (by omega), a, k, _, rfl, io, _, rfl, hq⟩
end
end Mine
end
section
open PySem PySem.W PyProof.Rows PySem.Calls
set_option Elab.async false
set_option linter.all false
set_option autoImplicit false
set_option maxRecDepth 100000
namespace Mine
theorem low_sh {k : Nat} (hk : Kd k) (y : Int) : Builtin.bitAnd y (((8 * k : Nat) : Int) - 1) = ((sh k y : Nat) : Int) := by
  have h := sh_lt hk y
  rw [h.2]
  rcases hk with rfl | rfl | rfl
  · rw [show ((8 * 1 : Nat) : Int) - 1 = 2 ^ 3 - 1 from rfl, kbt_mask]; omega
  · rw [show ((8 * 2 : Nat) : Int) - 1 = 2 ^ 4 - 1 from rfl, kbt_mask]; omega
  · rw [show ((8 * 8 : Nat) : Int) - 1 = 2 ^ 6 - 1 from rfl, kbt_mask]; omega
theorem bits71 {x : Int} (h : R71 x) : Builtin.Int.intBits x ≤ 72 := by
  unfold R71 at h
  exact bits_fit (k := 1) (by omega)
section
variable {Ω : Wd} (hΩ : Ω.K = K0 Ω.w.params)
include hΩ
theorem sp112 : Sp Ω 2 112 (gopI Ω 7) := sp_fn (fk112 hΩ) (dv112 hΩ) fun ds Q E hds => by
  obtain ⟨a, k, x, y, e, io, M, hx, hy, hq⟩ := hds
  subst e
  refine ⟨rfl, ?_⟩
  have hs := sh_lt io.kd y
  have hb := bits71 (ink_r71 io.kd hx)
  have hk9 : k ≤ 8 := by rcases io.kd with rfl | rfl | rfl <;> decide
  simp only [T112, sCons, sRet, sNil, sAssign]
  refine ⟨_, rfl, a, _, rfl, M.fit (sp49 hΩ), _, rfl, _, rfl, _, rfl, a, _, rfl, io.bl, _, _, rfl, rfl, _, _, rfl, rfl, _, _, rfl, rfl, ?_⟩
  rw [low_sh io.kd, Int.toNat_natCast]
  exact ⟨by omega, by omega, a, k, _, rfl, io, _, rfl, hq⟩
theorem sp119 : Sp Ω 2 119 (gopI Ω 8) := sp_fn (fk119 hΩ) (dv119 hΩ) fun ds Q E hds => by
  obtain ⟨a, k, x, y, e, io, M, hx, hy, hq⟩ := hds
  subst e
  refine ⟨rfl, ?_⟩
  simp only [T119, sCons, sRet, sNil, sAssign]
  refine ⟨_, rfl, a, _, rfl, M.fit (sp49 hΩ), _, rfl, _, rfl, _, rfl, a, _, rfl, io.bl, _, _, rfl, rfl, _, _, rfl, rfl, _, _, rfl, rfl, ?_⟩
  rw [low_sh io.kd, Int.toNat_natCast, fd_p _ (Int.le_of_lt (pow2_pos _))]
  exact ⟨by omega, a, k, _, rfl, io, _, rfl, hq⟩
theorem sp224 : Sp Ω 2 224 (gopU Ω 7) := sp_fn (fk224 hΩ) (dv224 hΩ) fun ds Q E hds => by
  obtain ⟨a, k, x, y, e, io, M, hx, hy, hq⟩ := hds
  subst e
  refine ⟨rfl, ?_⟩
  have hs := sh_lt io.kd y
  have hb := bits71 (ink_r71 io.kd hx)
  have hk9 : k ≤ 8 := by rcases io.kd with rfl | rfl | rfl <;> decide
  simp only [T224, sCons, sRet, sNil, sAssign]
  refine ⟨_, rfl, a, _, rfl, M.fit (sp161 hΩ), _, rfl, _, rfl, _, rfl, a, _, rfl, io.bl, _, _, rfl, rfl, _, _, rfl, rfl, _, _, rfl, rfl, ?_⟩
  rw [low_sh io.kd, Int.toNat_natCast]
  exact ⟨by omega, by omega, a, k, _, rfl, io, _, rfl, hq⟩
theorem sp231 : Sp Ω 2 231 (gopU Ω 8) := sp_fn (fk231 hΩ) (dv231 hΩ) fun ds Q E hds => by
  obtain ⟨a, k, x, y, e, io, M, hx, hy, hq⟩ := hds
  subst e
  refine ⟨rfl, ?_⟩
  simp only [T231, sCons, sRet, sNil, sAssign]
  refine ⟨_, rfl, a, _, rfl, M.fit (sp161 hΩ), _, rfl, _, rfl, _, rfl, a, _, rfl, io.bl, _, _, rfl, rfl, _, _, rfl, rfl, _, _, rfl, rfl, ?_⟩
  rw [low_sh io.kd, Int.toNat_natCast, fd_p _ (Int.le_of_lt (pow2_pos _))]
  exact ⟨by omega, a, k, _, rfl, io, _, rfl, hq⟩
end
end Mine
end
section
open PySem PySem.W PyProof.Rows PySem.Calls
set_option Elab.async false
set_option linter.all false
set_option autoImplicit false
set_option maxRecDepth 100000
namespace Mine
theorem mul_pos_iff' {x y : Int} : 0 < x * y ↔ (0 < x ∧ 0 < y) ∨ (x < 0 ∧ y < 0) := by
  constructor
  · intro h
    rcases Int.lt_trichotomy x 0 with hx | hx | hx <;> rcases Int.lt_trichotomy y 0 with hy | hy | hy
    · exact .inr ⟨hx, hy⟩
    · subst hy; simp at h
    · have := Int.mul_neg_of_neg_of_pos hx hy; omega
    · subst hx; simp at h
    · subst hx; simp at h
    · subst hx; simp at h
    · have := Int.mul_neg_of_pos_of_neg hx hy; omega
    · subst hy; simp at h
    · exact .inl ⟨hx, hy⟩
  · rintro (⟨hx, hy⟩ | ⟨hx, hy⟩)
    · exact Int.mul_pos hx hy
    · exact Int.mul_pos_of_neg_of_neg hx hy
theorem fdiv_mag {x y : Int} (hy : y ≠ 0) : x.fdiv y = if y < 0 then (-x) / (-y) else x / y := by
  split
  · rename_i h
    rw [← fd_p (-x) (show 0 ≤ -y by omega), Int.neg_fdiv_neg]
  · exact fd_p _ (by omega)
theorem fmod_mag {x y : Int} (hy : y ≠ 0) : x.fmod y = if y < 0 then -((-x) % (-y)) else x % y := by
  split
  · rename_i h
    rw [← fm_p (-x) (show 0 ≤ -y by omega), Int.neg_fmod_neg, Int.neg_neg]
  · exact fm_p _ (by omega)
theorem rem_eq {x y : Int} (hy : y ≠ 0) : (if 0 < x * y then x.fmod y else -((-x).fmod y)) = tr x y := by
  rw [fmod_mag hy, fmod_mag hy]
  unfold tr mag
  by_cases h : 0 < x * y
  · rw [if_pos h]
    rcases mul_pos_iff'.mp h with ⟨h1, h2⟩ | ⟨h1, h2⟩
    · rw [if_neg (by omega), if_neg (by omega), if_neg (by omega), if_neg (by omega)]
    · rw [if_pos h2, if_pos h1, if_pos h1, if_pos h2]
  · rw [if_neg h]
    have hn : ¬ ((0 < x ∧ 0 < y) ∨ (x < 0 ∧ y < 0)) := fun q => h (mul_pos_iff'.mpr q)
    by_cases h1 : y < 0
    · rw [if_pos h1, if_pos h1, if_neg (by omega), if_neg (by omega), Int.neg_neg, Int.neg_neg]
    · rw [if_neg h1, if_neg h1]
      by_cases h2 : x < 0
      · rw [if_pos h2, if_pos h2]
      · have : x = 0 := by omega
        subst this
        simp
theorem quo_eq {x y : Int} (hy : y ≠ 0) : (if 0 < x * y then x.fdiv y else (x + (-x).fmod y).fdiv y) = tq x y := by
  have e : (x + (-x).fmod y).fdiv y = -((-x).fdiv y) := by
    have h := Int.mul_fdiv_add_fmod (-x) y
    have : x + (-x).fmod y = (-((-x).fdiv y)) * y := by
      rw [Int.neg_mul, Int.mul_comm]; omega
    rw [this, Int.mul_fdiv_cancel _ hy]
  rw [e, fdiv_mag hy, fdiv_mag hy]
  unfold tq mag
  by_cases h : 0 < x * y
  · rw [if_pos h]
    rcases mul_pos_iff'.mp h with ⟨h1, h2⟩ | ⟨h1, h2⟩
    · rw [decide_eq_false (show ¬ x < 0 by omega), decide_eq_false (show ¬ y < 0 by omega)]
      simp [show ¬ y < 0 by omega, show ¬ x < 0 by omega]
    · rw [decide_eq_true h1, decide_eq_true h2]
      simp [h1, h2]
  · rw [if_neg h]
    have hn : ¬ ((0 < x ∧ 0 < y) ∨ (x < 0 ∧ y < 0)) := fun q => h (mul_pos_iff'.mpr q)
    by_cases h1 : y < 0
    · rw [decide_eq_true h1, decide_eq_false (show ¬ x < 0 by omega)]
      simp [h1, show ¬ x < 0 by omega]
    · by_cases h2 : x < 0
      · rw [decide_eq_false h1, decide_eq_true h2]
        simp [h1, h2]
      · have : x = 0 := by omega
        subst this
        simp
end Mine
end
section
open PySem PySem.W PyProof.Rows PySem.Calls
set_option Elab.async false
set_option linter.all false
set_option autoImplicit false
set_option maxRecDepth 100000
namespace Mine
theorem ne_ii {Q : D → Prop} {E : Nat → Prop} {x y : Int} (h : Q (.bool (x != y))) : dNe (.int x) (.int y) Q E := by rw [dNe_ii]; exact h
section
variable {Ω : Wd} (hΩ : Ω.K = K0 Ω.w.params)
include hΩ
theorem sp105 : Sp Ω 2 105 (gopI Ω 6) := sp_fn (fk105 hΩ) (dv105 hΩ) fun ds Q E hds => by
  obtain ⟨a, k, x, y, e, io, M, hx, hy, hq⟩ := hds
  subst e
  refine ⟨rfl, ?_⟩
  have hx7 := ink_r71 io.kd hx
  have hy7 := ink_r71 io.kd hy
  simp only [T105, sCons, sRet, sNil, sAssign]
  unfold R71 at hx7 hy7
  refine ⟨_, rfl, _, rfl, _, _, rfl, rfl, mulOk (by omega) (by omega) (by omega) (by omega), _, _, rfl, rfl, _, rfl, ?_⟩
  by_cases h0 : y = 0
  · subst h0
    rw [Int.mul_zero]
    exact ⟨_, rfl, _, rfl, _, rfl, _, _, rfl, rfl, fun _ => hq, fun q => absurd rfl q⟩
  · have hq' : Q (.int (tr x y)) := by simpa [res, rq, h0, Res.go] using hq
    rw [← rem_eq h0] at hq'
    by_cases h : 0 < x * y
    · rw [if_pos h] at hq'
      rw [decide_eq_true h]
      exact ⟨_, rfl, _, rfl, _, _, rfl, rfl, fun q => absurd q h0, fun _ => ⟨_, rfl, hq'⟩⟩
    · rw [if_neg h] at hq'
      rw [decide_eq_false h]
      exact ⟨_, rfl, _, rfl, _, rfl, _, _, rfl, rfl, fun q => absurd q h0, fun _ => ⟨_, rfl, _, rfl, hq'⟩⟩
theorem sp217 : Sp Ω 2 217 (gopU Ω 6) := sp_fn (fk217 hΩ) (dv217 hΩ) fun ds Q E hds => by
  obtain ⟨a, k, x, y, e, io, M, hx, hy, hq⟩ := hds
  subst e
  refine ⟨rfl, ?_⟩
  simp only [T217, sCons, sRet, sNil, sAssign]
  unfold InK lov at hx hy
  simp only [Bool.false_eq_true, if_false] at hx hy
  refine ⟨_, rfl, _, rfl, _, _, rfl, rfl, fun h0 => ?_, fun h0 => ⟨_, rfl, ?_⟩⟩
  · subst h0; exact hq
  · have hq' : Q (.int (tr x y)) := by simpa [res, rq, h0, Res.go] using hq
    rw [fm_p _ hy.1]
    unfold tr mag at hq'
    rw [if_neg (by omega), if_neg (by omega), if_neg (by omega)] at hq'
    exact hq'
end
end Mine
end
section
open PySem PySem.W PyProof.Rows PySem.Calls
set_option Elab.async false
set_option linter.all false
set_option autoImplicit false
set_option maxRecDepth 100000
namespace Mine
theorem tq_in {k : Nat} (hk : Kd k) {x y : Int} (hx : InK k true x) (h0 : y ≠ 0) (h : ¬ (x = lov k true ∧ y = -1)) : lov k true ≤ tq x y ∧ tq x y ≤ hiv k true := by
  have hpy := mag_pos h0
  have hmx : 0 ≤ mag x := (mag_bd hk hx).1
  have hb := magq (x := x) (y := y) (.inr trivial) hmx hpy
  have h2 : mag y ≠ 1 → 2 * (mag x / mag y) ≤ mag x := fun hne => by
    have h1 := Int.mul_ediv_add_emod (mag x) (mag y)
    have h3 : 2 * (mag x / mag y) ≤ mag y * (mag x / mag y) := Int.mul_le_mul_of_nonneg_right (by omega) hb.1
    omega
  have h1 : mag y = 1 → mag x / mag y = mag x := fun q => by rw [q, Int.ediv_one]
  unfold tq
  generalize mag x / mag y = q at *
  unfold InK lov hiv at *
  simp only [if_true] at *
  obtain ⟨G, g0, g1, e1, e2, e3, e4⟩ := kd_pow hk
  rw [e2] at hx h ⊢
  clear e1 e2 e3 e4 hk g1
  unfold mag at *
  by_cases a : x < 0 <;> by_cases b : y < 0 <;> simp only [a, b, decide_true, decide_false, if_true, if_false, bne_self_eq_false, Bool.false_eq_true, Bool.true_bne, Bool.false_bne, Bool.not_false, Bool.not_true] at * <;> omega
section
variable {Ω : Wd} (hΩ : Ω.K = K0 Ω.w.params)
include hΩ
theorem sp210 : Sp Ω 2 210 (gopU Ω 5) := sp_fn (fk210 hΩ) (dv210 hΩ) fun ds Q E hds => by
  obtain ⟨a, k, x, y, e, io, M, hx, hy, hq⟩ := hds
  subst e
  refine ⟨rfl, ?_⟩
  have hk := io.kd
  have hx' := hx
  have hy7 := log_ok (ink_r71 hk hy)
  simp only [T210, sCons, sRet, sNil, sAssign]
  unfold InK lov hiv at hx hy
  simp only [Bool.false_eq_true, if_false] at hx hy
  refine ⟨_, rfl, _, rfl, _, _, rfl, rfl, hy7, fun h0 => ?_, fun h0 => ⟨_, rfl, ?_⟩⟩
  · subst h0; exact hq
  · have hd0 : 0 ≤ x / y := Int.ediv_nonneg hx.1 hy.1
    have hd1 : x / y ≤ x := Int.ediv_le_self _ hx.1
    have ht : tq x y = x / y := by
      unfold tq mag
      rw [decide_eq_false (show ¬ x < 0 by omega), decide_eq_false (show ¬ y < 0 by omega), if_neg (by decide), if_neg (by omega), if_neg (by omega)]
    have hin : lov k false ≤ tq x y ∧ tq x y ≤ hiv k false := by
      rw [ht]; unfold lov hiv; simp only [Bool.false_eq_true, if_false]; omega
    have hq' : Q (.int (tq x y)) := by simpa [res, rq, h0, hin, Res.go] using hq
    rw [fd_p _ hy.1, ← ht]
    exact hq'
end
end Mine
end
section
open PySem PySem.W PyProof.Rows PySem.Calls
set_option Elab.async false
set_option linter.all false
set_option autoImplicit false
set_option maxRecDepth 100000
namespace Mine
section
variable {Ω : Wd} (hΩ : Ω.K = K0 Ω.w.params)
include hΩ
theorem sp98 : Sp Ω 2 98 (gopI Ω 5) := sp_fn (fk98 hΩ) (dv98 hΩ) fun ds Q E hds => by
  obtain ⟨a, k, x, y, e, io, M, hx, hy, hq⟩ := hds
  subst e
  refine ⟨rfl, ?_⟩
  have hk := io.kd
  have hx7 := ink_r71 hk hx
  have hy7 := ink_r71 hk hy
  have hly := log_ok hy7
  simp only [T98, sCons, sRet, sNil, sAssign, sAssert]
  have go : ∀ K : D → Prop, ((res 5 k true x y).go K E) → ¬ (x = lov k true ∧ y = -1) →
      tIte (tTest (tBin dGt (tBin dMulI (tVar 4) (tVar 5)) (tLit (.int 0)))) (tBin dFdiv (tVar 4) (tVar 5)) (tBin dFdiv (tBin dAddI (tVar 4) (tBin dMod (tNeg (tVar 4)) (tVar 5))) (tVar 5)) (bindR [0, 4, 5] [.ref a, .int x, .int y]) K E := fun K hK hne => by
    have hx8 := hx7
    have hy8 := hy7
    unfold R71 at hx8 hy8
    refine ⟨_, rfl, _, rfl, _, _, rfl, rfl, mulOk (by omega) (by omega) (by omega) (by omega), _, _, rfl, rfl, _, rfl, ?_⟩
    by_cases h0 : y = 0
    · subst h0
      rw [Int.mul_zero]
      exact ⟨_, rfl, _, rfl, _, rfl, _, rfl, _, _, rfl, rfl, fun _ => hK, fun q => absurd rfl q⟩
    · have hin := tq_in hk hx h0 hne
      have hq' : K (.int (tq x y)) := by simpa [res, rq, h0, hin, Res.go] using hK
      rw [← quo_eq h0] at hq'
      by_cases h : 0 < x * y
      · rw [if_pos h] at hq'
        rw [decide_eq_true h]
        exact ⟨_, rfl, _, rfl, _, _, rfl, rfl, hly, fun q => absurd q h0, fun _ => hq'⟩
      · rw [if_neg h] at hq'
        rw [decide_eq_false h]
        exact ⟨_, rfl, _, rfl, _, rfl, _, rfl, _, _, rfl, rfl, fun q => absurd q h0, fun _ => ⟨_, _, rfl, rfl, _, rfl, _, _, rfl, rfl, hly, fun q => absurd q h0, fun _ => hq'⟩⟩
  refine ⟨_, rfl, _, rfl, a, _, rfl, io.mn, ?_⟩
  refine ne_ii (x := x) (y := lov k true) ⟨_, rfl, ?_⟩
  by_cases h1 : x = lov k true
  · rw [show (x != lov k true) = false by simp [h1]]
    refine ⟨_, rfl, 1, rfl, ?_⟩
    refine ne_ii (x := y) (y := -1) ⟨_, rfl, ?_⟩
    by_cases h2 : y = -1
    · subst h2
      have hn : ¬ (lov k true ≤ tq x (-1) ∧ tq x (-1) ≤ hiv k true) := by
        subst h1
        unfold lov hiv tq mag
        rcases hk with rfl | rfl | rfl <;> decide
      rw [show ((-1 : Int) != -1) = false from rfl]
      simpa [res, rq, hn, Res.go] using hq
    · rw [show (y != -1) = true by simp [h2]]
      exact go _ (by
        revert hq
        cases res 5 k true x y with
        | no c => exact id
        | ok v => exact fun q => ⟨_, rfl, q⟩) fun q => h2 q.2
  · rw [show (x != lov k true) = true by simp [h1]]
    exact go _ (by
      revert hq
      cases res 5 k true x y with
      | no c => exact id
      | ok v => exact fun q => ⟨_, rfl, q⟩) fun q => h1 q.1
end
end Mine
end
section
open PySem PySem.W PyProof.Rows PySem.Calls
set_option Elab.async false
set_option linter.all false
set_option autoImplicit false
set_option maxRecDepth 100000
namespace Mine
theorem or_disj {a b : Int} {t : Nat} (ha : 0 ≤ a) (hb : 0 ≤ b) (hb1 : b < 2 ^ t) : Builtin.bitOr (a * 2 ^ t) b = a * 2 ^ t + b := by
  rw [bitOr_and]
  have h : Builtin.bitAnd (a * 2 ^ t) b = 0 := by
    rw [bitAnd_pp (Int.mul_nonneg ha (Int.le_of_lt (pow2_pos t))) hb]
    obtain ⟨A, rfl⟩ := Int.eq_ofNat_of_zero_le ha
    obtain ⟨B, rfl⟩ := Int.eq_ofNat_of_zero_le hb
    have e : ((A : Int) * 2 ^ t).toNat = A * 2 ^ t := by
      have : ((A : Int) * 2 ^ t) = ((A * 2 ^ t : Nat) : Int) := by rw [Int.natCast_mul, Int.natCast_pow]; rfl
      rw [this, Int.toNat_natCast]
    rw [e, Int.toNat_natCast]
    have hB : B < 2 ^ t := by
      have : ((2 ^ t : Nat) : Int) = 2 ^ t := by rw [Int.natCast_pow]; rfl
      omega
    have : A * 2 ^ t &&& B = 0 := by
      refine Nat.eq_of_testBit_eq fun i => ?_
      rw [Nat.testBit_and, Nat.zero_testBit, Nat.mul_comm, Nat.testBit_two_pow_mul]
      by_cases hi : t ≤ i
      · rw [Nat.testBit_lt_two_pow (Nat.lt_of_lt_of_le hB (Nat.pow_le_pow_right (by decide) hi)), Bool.and_false]
      · simp [hi]
    rw [this]; rfl
  rw [h]; omega
theorem sh_eq {k : Nat} (hk : Kd k) (y : Int) : y.fmod ((8 * k : Nat) : Int) = ((sh k y : Nat) : Int) := by
  rw [fm_p _ (by omega)]
  unfold sh
  rw [Int.toNat_of_nonneg]
  rcases hk with rfl | rfl | rfl <;> exact Int.emod_nonneg _ (by decide)
theorem k8c_ne {k : Nat} (h : 1 ≤ k ∧ k ≤ 8) : ((8 * k : Nat) : Int) ≠ 0 := by omega
theorem shl_fit {b k s : Nat} (h : 1 ≤ k ∧ k ≤ 8) (hb : b ≤ 72) (hs : s ≤ 8 * k) : (b : Int) + (s : Int) ≤ 2 ^ 27 := by omega
theorem nn_sub {k s : Nat} (hs : s < 8 * k) : 0 ≤ ((8 * k : Nat) : Int) - (s : Int) := by omega
theorem toNat_sub {k s : Nat} (hs : s < 8 * k) : (((8 * k : Nat) : Int) - (s : Int)).toNat = 8 * k - s := by omega
theorem shl_fit' {b k s : Nat} (h : 1 ≤ k ∧ k ≤ 8) (hb : b ≤ 72) (hs : s < 8 * k) : (b : Int) + (((8 * k : Nat) : Int) - (s : Int)) ≤ 2 ^ 27 := by omega
section
variable {Ω : Wd} (hΩ : Ω.K = K0 Ω.w.params)
include hΩ
theorem sp238 : Sp Ω 2 238 (gopU Ω 10) := sp_fn (fk238 hΩ) (dv238 hΩ) fun ds Q E hds => by
  obtain ⟨a, k, x, y, e, io, M, hx, hy, hq⟩ := hds
  subst e
  refine ⟨rfl, ?_⟩
  have hk := io.kd
  have hs := sh_lt hk y
  have hb := bits71 (ink_r71 hk hx)
  have hk9 := kd_le hk
  have hx0 := ink_u hx
  simp only [T238, sCons, sRet, sNil, sAssign]
  refine ⟨_, rfl, _, rfl, a, _, rfl, io.bl, _, _, rfl, rfl, fun q => absurd q (k8c_ne hk9), fun _ => ?_⟩
  rw [sh_eq hk]
  refine ⟨_, rfl, _, rfl, _, _, rfl, rfl, Int.natCast_nonneg _, shl_fit hk9 hb (Nat.le_of_lt hs.1), _, rfl, a, _, rfl, io.msk, _, _, rfl, rfl, _, rfl, _, rfl, a, _, rfl, io.bl, _, rfl, _, _, rfl, rfl, _, _, rfl, rfl, nn_sub hs.1, _, _, rfl, rfl, _, rfl, ?_⟩
  rw [kbt_mask, Int.toNat_natCast, show (((8 * k : Nat) : Int) - ((sh k y : Nat) : Int)).toNat = 8 * k - sh k y from toNat_sub hs.1, fd_p _ (Int.le_of_lt (pow2_pos _))]
  have hh := hi_lt (t := sh k y) (L := 8 * k) (Nat.le_of_lt hs.1) hx0.1 hx0.2
  rw [mod_mul x (Nat.le_of_lt hs.1), or_disj (Int.emod_nonneg _ (Int.ne_of_gt (pow2_pos _))) hh.1 hh.2, ← mod_mul x (Nat.le_of_lt hs.1)]
  have hr := rotv_bd (t := sh k y) (Nat.le_of_lt hs.1) hx0.1 hx0.2
  have hw : wrapv k false (rotv x (sh k y) (8 * k)) = rotv x (sh k y) (8 * k) := by
    unfold wrapv; rw [if_neg (by decide)]; exact Int.emod_eq_of_lt hr.1 hr.2
  have hq' : Q (.int (wrapv k false (rotv x (sh k y) (8 * k)))) := hq
  rw [hw] at hq'
  exact hq'
theorem sp245 : Sp Ω 2 245 (gopU Ω 11) := sp_fn (fk245 hΩ) (dv245 hΩ) fun ds Q E hds => by
  obtain ⟨a, k, x, y, e, io, M, hx, hy, hq⟩ := hds
  subst e
  refine ⟨rfl, ?_⟩
  have hk := io.kd
  have hs := sh_lt hk y
  have hb := bits71 (ink_r71 hk hx)
  have hk9 := kd_le hk
  have hx0 := ink_u hx
  simp only [T245, sCons, sRet, sNil, sAssign]
  refine ⟨_, rfl, _, rfl, a, _, rfl, io.bl, _, _, rfl, rfl, fun q => absurd q (k8c_ne hk9), fun _ => ?_⟩
  rw [sh_eq hk]
  refine ⟨_, rfl, _, rfl, _, _, rfl, rfl, Int.natCast_nonneg _, _, rfl, _, rfl, a, _, rfl, io.bl, _, rfl, _, _, rfl, rfl, _, _, rfl, rfl, nn_sub hs.1, shl_fit' hk9 hb hs.1, _, rfl, a, _, rfl, io.msk, _, _, rfl, rfl, _, _, rfl, rfl, _, rfl, ?_⟩
  rw [kbt_mask, Int.toNat_natCast, show (((8 * k : Nat) : Int) - ((sh k y : Nat) : Int)).toNat = 8 * k - sh k y from toNat_sub hs.1, fd_p _ (Int.le_of_lt (pow2_pos _)), bitOr_comm]
  have hh := hi_lt (t := 8 * k - sh k y) (L := 8 * k) (Nat.sub_le _ _) hx0.1 hx0.2
  rw [Nat.sub_sub_self (Nat.le_of_lt hs.1)] at hh
  rw [mod_mul x (Nat.sub_le _ _), or_disj (Int.emod_nonneg _ (Int.ne_of_gt (pow2_pos _))) hh.1 hh.2, ← mod_mul x (Nat.sub_le _ _)]
  have hr := rotv_bd (t := 8 * k - sh k y) (Nat.sub_le _ _) hx0.1 hx0.2
  have hw : wrapv k false (rotv x (8 * k - sh k y) (8 * k)) = rotv x (8 * k - sh k y) (8 * k) := by
    unfold wrapv; rw [if_neg (by decide)]; exact Int.emod_eq_of_lt hr.1 hr.2
  have hq' : Q (.int (wrapv k false (rotv x (8 * k - sh k y) (8 * k)))) := hq
  rw [hw] at hq'
  unfold rotv at hq'
  rw [Nat.sub_sub_self (Nat.le_of_lt hs.1)] at hq'
  exact hq'
end
end Mine
end
section
open PySem PySem.W PyProof.Rows PySem.Calls
set_option Elab.async false
set_option linter.all false
set_option autoImplicit false
set_option maxRecDepth 100000
namespace Mine
noncomputable def gop1 (Ω : Wd) (nm : Nat) : FT := fun ds Q _ => ∃ a k x, ds = [.ref a, .int x] ∧ IOk Ω a k false ∧ InK k false x ∧ ∀ v, res nm k false x 0 = .ok v → Q (.int v)
theorem half (x : Int) (i : Nat) : (x / 2 ^ i).fdiv (2 ^ Int.toNat 1) = x / 2 ^ (i + 1) := by
  rw [fd_p _ (by decide), div2_add]; rfl
section
variable {Ω : Wd} (hΩ : Ω.K = K0 Ω.w.params)
include hΩ
theorem sp266 : Sp Ω 2 266 (gop1 Ω 14) := sp_fn (fk266 hΩ) (dv266 hΩ) fun ds Q E hds => by
  obtain ⟨a, k, x, e, io, hx, hq⟩ := hds
  subst e
  refine ⟨rfl, ?_⟩
  have hk := io.kd
  have hk9 := kd_le hk
  simp only [T266, sCons, sRet, sNil, sAssign]
  refine ⟨_, rfl, a, _, rfl, io.bl, 8 * k, rfl, Nat.lt_of_le_of_lt (le64 hk9) (by decide), ?_⟩
  refine loopT_range (fun i ρ => ρ 4 = some (.val (.int (x / 2 ^ i))) ∧ ρ 5 = some (.val (.int (pc x i)))) ⟨by show some _ = _; rw [Int.pow_zero, Int.ediv_one], rfl⟩ (fun i ρ hi ⟨h4, h5⟩ K k1 _ _ _ => ?_) (fun ρ ⟨h4, h5⟩ => ⟨_, h5, _, rfl, hq _ rfl⟩)
  simp only [B266, sCons, sNil, sRet, sAssign, sIf, sAssert, sAug, sFlow, tIte, tTest, tAnd, tOr, tBin, tNeg, tVar, tLit, tCall, lCons, lNil, tTup, tList, bindR, upd, rho0, dSub, dAddI, D.int.injEq, D.bool.injEq, D.list.injEq, D.str.injEq, D.ref.injEq, D.tup.injEq, exists_eq_left', exists_eq_left, exists_and_left, true_and, and_true, reduceIte, Nat.reduceEqDiff, Option.some.injEq, Sl.val.injEq, Flw.ret.injEq, List.cons.injEq, dEq_ii, dEq_ss, dEq_ll, dNe_ii, dNe_ss, dNe_bb, dNe_ll, Sl.own.injEq, dAndI, dShr, h4, h5, bitAnd_m1]
  by_cases h : x / 2 ^ i % 2 = 0
  · rw [show (x / 2 ^ i % 2 != 0) = false by simp [h]]
    simp only [Bool.false_eq_true, if_false, sCons, sNil, sRet, sAssign, sIf, sAssert, sAug, sFlow, tIte, tTest, tAnd, tOr, tBin, tNeg, tVar, tLit, tCall, lCons, lNil, tTup, tList, bindR, upd, rho0, dSub, dAddI, D.int.injEq, D.bool.injEq, D.list.injEq, D.str.injEq, D.ref.injEq, D.tup.injEq, exists_eq_left', exists_eq_left, exists_and_left, true_and, and_true, reduceIte, Nat.reduceEqDiff, Option.some.injEq, Sl.val.injEq, Flw.ret.injEq, List.cons.injEq, dEq_ii, dEq_ss, dEq_ll, dNe_ii, dNe_ss, dNe_bb, dNe_ll, Sl.own.injEq, h4, h5]
    refine ⟨by decide, k1 _ ⟨?_, ?_⟩⟩
    · simp only [sCons, sNil, sRet, sAssign, sIf, sAssert, sAug, sFlow, tIte, tTest, tAnd, tOr, tBin, tNeg, tVar, tLit, tCall, lCons, lNil, tTup, tList, bindR, upd, rho0, dSub, dAddI, D.int.injEq, D.bool.injEq, D.list.injEq, D.str.injEq, D.ref.injEq, D.tup.injEq, exists_eq_left', exists_eq_left, exists_and_left, true_and, and_true, reduceIte, Nat.reduceEqDiff, Option.some.injEq, Sl.val.injEq, Flw.ret.injEq, List.cons.injEq, dEq_ii, dEq_ss, dEq_ll, dNe_ii, dNe_ss, dNe_bb, dNe_ll, Sl.own.injEq]; rw [half]
    · simp only [sCons, sNil, sRet, sAssign, sIf, sAssert, sAug, sFlow, tIte, tTest, tAnd, tOr, tBin, tNeg, tVar, tLit, tCall, lCons, lNil, tTup, tList, bindR, upd, rho0, dSub, dAddI, D.int.injEq, D.bool.injEq, D.list.injEq, D.str.injEq, D.ref.injEq, D.tup.injEq, exists_eq_left', exists_eq_left, exists_and_left, true_and, and_true, reduceIte, Nat.reduceEqDiff, Option.some.injEq, Sl.val.injEq, Flw.ret.injEq, List.cons.injEq, dEq_ii, dEq_ss, dEq_ll, dNe_ii, dNe_ss, dNe_bb, dNe_ll, Sl.own.injEq, h5]
      rw [show pc x (i + 1) = pc x i from by show pc x i + _ = _; rw [if_neg (by omega), Nat.add_zero]]
  · rw [show (x / 2 ^ i % 2 != 0) = true by simp [h]]
    simp only [if_true, sCons, sNil, sRet, sAssign, sIf, sAssert, sAug, sFlow, tIte, tTest, tAnd, tOr, tBin, tNeg, tVar, tLit, tCall, lCons, lNil, tTup, tList, bindR, upd, rho0, dSub, dAddI, D.int.injEq, D.bool.injEq, D.list.injEq, D.str.injEq, D.ref.injEq, D.tup.injEq, exists_eq_left', exists_eq_left, exists_and_left, true_and, and_true, reduceIte, Nat.reduceEqDiff, Option.some.injEq, Sl.val.injEq, Flw.ret.injEq, List.cons.injEq, dEq_ii, dEq_ss, dEq_ll, dNe_ii, dNe_ss, dNe_bb, dNe_ll, Sl.own.injEq, h4, h5]
    refine ⟨by decide, k1 _ ⟨?_, ?_⟩⟩
    · simp only [sCons, sNil, sRet, sAssign, sIf, sAssert, sAug, sFlow, tIte, tTest, tAnd, tOr, tBin, tNeg, tVar, tLit, tCall, lCons, lNil, tTup, tList, bindR, upd, rho0, dSub, dAddI, D.int.injEq, D.bool.injEq, D.list.injEq, D.str.injEq, D.ref.injEq, D.tup.injEq, exists_eq_left', exists_eq_left, exists_and_left, true_and, and_true, reduceIte, Nat.reduceEqDiff, Option.some.injEq, Sl.val.injEq, Flw.ret.injEq, List.cons.injEq, dEq_ii, dEq_ss, dEq_ll, dNe_ii, dNe_ss, dNe_bb, dNe_ll, Sl.own.injEq]; rw [half]
    · simp only [sCons, sNil, sRet, sAssign, sIf, sAssert, sAug, sFlow, tIte, tTest, tAnd, tOr, tBin, tNeg, tVar, tLit, tCall, lCons, lNil, tTup, tList, bindR, upd, rho0, dSub, dAddI, D.int.injEq, D.bool.injEq, D.list.injEq, D.str.injEq, D.ref.injEq, D.tup.injEq, exists_eq_left', exists_eq_left, exists_and_left, true_and, and_true, reduceIte, Nat.reduceEqDiff, Option.some.injEq, Sl.val.injEq, Flw.ret.injEq, List.cons.injEq, dEq_ii, dEq_ss, dEq_ll, dNe_ii, dNe_ss, dNe_bb, dNe_ll, Sl.own.injEq]
      rw [show pc x (i + 1) = pc x i + 1 from by show pc x i + _ = _; rw [if_pos (by omega)]]
      rfl
end
end Mine
end
section
open PySem PySem.W PyProof.Rows PySem.Calls
set_option Elab.async false
set_option linter.all false
set_option autoImplicit false
set_option maxRecDepth 100000
namespace Mine
theorem tz_step (x : Int) {L i : Nat} (h : i < L) : tz x (L - i) i = if x / 2 ^ i % 2 = 1 then 0 else 1 + tz x (L - (i + 1)) (i + 1) := by
  rw [show L - i = (L - (i + 1)) + 1 from (Nat.sub_add_cancel (Nat.sub_pos_of_lt h)).symm]
  rfl
section
variable {Ω : Wd} (hΩ : Ω.K = K0 Ω.w.params)
include hΩ
theorem sp259 : Sp Ω 2 259 (gop1 Ω 13) := sp_fn (fk259 hΩ) (dv259 hΩ) fun ds Q E hds => by
  obtain ⟨a, k, x, e, io, hx, hq⟩ := hds
  subst e
  refine ⟨rfl, ?_⟩
  have hk := io.kd
  have hk9 := kd_le hk
  have hq' : Q (.int (tz x (8 * k) 0 : Nat)) := hq _ rfl
  simp only [T259, sCons, sRet, sNil, sAssign]
  refine ⟨_, rfl, a, _, rfl, io.bl, 8 * k, rfl, Nat.lt_of_le_of_lt (le64 hk9) (by decide), ?_⟩
  refine loopT_range (fun i ρ => ρ 4 = some (.val (.int (x / 2 ^ i))) ∧ ρ 5 = some (.val (.int (i : Nat))) ∧ tz x (8 * k) 0 = i + tz x (8 * k - i) i) ⟨by show some _ = _; rw [Int.pow_zero, Int.ediv_one], rfl, by rw [Nat.zero_add]; rfl⟩ (fun i ρ hi ⟨h4, h5, h6⟩ K k1 _ k3 _ => ?_) (fun ρ ⟨h4, h5, h6⟩ => ⟨_, h5, _, rfl, ?_⟩)
  · rw [tz_step x hi] at h6
    simp only [B259, sCons, sNil, sRet, sAssign, sIf, sAssert, sAug, sFlow, tIte, tTest, tAnd, tOr, tBin, tNeg, tVar, tLit, tCall, lCons, lNil, tTup, tList, bindR, upd, rho0, dSub, dAddI, D.int.injEq, D.bool.injEq, D.list.injEq, D.str.injEq, D.ref.injEq, D.tup.injEq, exists_eq_left', exists_eq_left, exists_and_left, true_and, and_true, reduceIte, Nat.reduceEqDiff, Option.some.injEq, Sl.val.injEq, Flw.ret.injEq, List.cons.injEq, dEq_ii, dEq_ss, dEq_ll, dNe_ii, dNe_ss, dNe_bb, dNe_ll, Sl.own.injEq, dAndI, dShr, h4, h5, bitAnd_m1]
    by_cases h : x / 2 ^ i % 2 = 0
    · rw [show (x / 2 ^ i % 2 != 0) = false by simp [h]]
      rw [if_neg (by omega)] at h6
      simp only [Bool.false_eq_true, if_false, sCons, sNil, sRet, sAssign, sIf, sAssert, sAug, sFlow, tIte, tTest, tAnd, tOr, tBin, tNeg, tVar, tLit, tCall, lCons, lNil, tTup, tList, bindR, upd, rho0, dSub, dAddI, D.int.injEq, D.bool.injEq, D.list.injEq, D.str.injEq, D.ref.injEq, D.tup.injEq, exists_eq_left', exists_eq_left, exists_and_left, true_and, and_true, reduceIte, Nat.reduceEqDiff, Option.some.injEq, Sl.val.injEq, Flw.ret.injEq, List.cons.injEq, dEq_ii, dEq_ss, dEq_ll, dNe_ii, dNe_ss, dNe_bb, dNe_ll, Sl.own.injEq, h4, h5]
      refine ⟨by decide, k1 _ ⟨?_, ?_, ?_⟩⟩
      · simp only [sCons, sNil, sRet, sAssign, sIf, sAssert, sAug, sFlow, tIte, tTest, tAnd, tOr, tBin, tNeg, tVar, tLit, tCall, lCons, lNil, tTup, tList, bindR, upd, rho0, dSub, dAddI, D.int.injEq, D.bool.injEq, D.list.injEq, D.str.injEq, D.ref.injEq, D.tup.injEq, exists_eq_left', exists_eq_left, exists_and_left, true_and, and_true, reduceIte, Nat.reduceEqDiff, Option.some.injEq, Sl.val.injEq, Flw.ret.injEq, List.cons.injEq, dEq_ii, dEq_ss, dEq_ll, dNe_ii, dNe_ss, dNe_bb, dNe_ll, Sl.own.injEq]; rw [half]
      · simp only [sCons, sNil, sRet, sAssign, sIf, sAssert, sAug, sFlow, tIte, tTest, tAnd, tOr, tBin, tNeg, tVar, tLit, tCall, lCons, lNil, tTup, tList, bindR, upd, rho0, dSub, dAddI, D.int.injEq, D.bool.injEq, D.list.injEq, D.str.injEq, D.ref.injEq, D.tup.injEq, exists_eq_left', exists_eq_left, exists_and_left, true_and, and_true, reduceIte, Nat.reduceEqDiff, Option.some.injEq, Sl.val.injEq, Flw.ret.injEq, List.cons.injEq, dEq_ii, dEq_ss, dEq_ll, dNe_ii, dNe_ss, dNe_bb, dNe_ll, Sl.own.injEq]; rfl
      · omega
    · rw [show (x / 2 ^ i % 2 != 0) = true by simp [h]]
      rw [if_pos (by omega)] at h6
      simp only [if_true, sCons, sNil, sRet, sAssign, sIf, sAssert, sAug, sFlow, tIte, tTest, tAnd, tOr, tBin, tNeg, tVar, tLit, tCall, lCons, lNil, tTup, tList, bindR, upd, rho0, dSub, dAddI, D.int.injEq, D.bool.injEq, D.list.injEq, D.str.injEq, D.ref.injEq, D.tup.injEq, exists_eq_left', exists_eq_left, exists_and_left, true_and, and_true, reduceIte, Nat.reduceEqDiff, Option.some.injEq, Sl.val.injEq, Flw.ret.injEq, List.cons.injEq, dEq_ii, dEq_ss, dEq_ll, dNe_ii, dNe_ss, dNe_bb, dNe_ll, Sl.own.injEq, h4, h5]
      refine k3 _ ⟨(.int (i : Nat)), ?_, _, rfl, ?_⟩
      · simp only [sCons, sNil, sRet, sAssign, sIf, sAssert, sAug, sFlow, tIte, tTest, tAnd, tOr, tBin, tNeg, tVar, tLit, tCall, lCons, lNil, tTup, tList, bindR, upd, rho0, dSub, dAddI, D.int.injEq, D.bool.injEq, D.list.injEq, D.str.injEq, D.ref.injEq, D.tup.injEq, exists_eq_left', exists_eq_left, exists_and_left, true_and, and_true, reduceIte, Nat.reduceEqDiff, Option.some.injEq, Sl.val.injEq, Flw.ret.injEq, List.cons.injEq, dEq_ii, dEq_ss, dEq_ll, dNe_ii, dNe_ss, dNe_bb, dNe_ll, Sl.own.injEq, h5]
      · rw [h6] at hq'; exact hq'
  · rw [Nat.sub_self] at h6
    rw [h6] at hq'; exact hq'
end
end Mine
end
section
open PySem PySem.W PyProof.Rows PySem.Calls
set_option Elab.async false
set_option linter.all false
set_option autoImplicit false
set_option maxRecDepth 100000
namespace Mine
theorem lz_step (x : Int) {L i : Nat} (h : i < L) : lz x (L - i) = if x / 2 ^ (L - 1 - i) % 2 = 1 then 0 else 1 + lz x (L - (i + 1)) := by
  rw [show L - i = (L - (i + 1)) + 1 from (Nat.sub_add_cancel (Nat.sub_pos_of_lt h)).symm, show L - 1 - i = L - (i + 1) from by rw [Nat.sub_sub, Nat.add_comm]]
  rfl
theorem shl_bits {x : Int} {i : Nat} (h0 : 0 ≤ x) (h1 : x < 2 ^ 64) (hi : i ≤ 64) : Builtin.Int.intBits (x * 2 ^ i) ≤ 200 := by
  have hp := pow2_pos i
  have e : (2 : Int) ^ 64 = 2 ^ i * 2 ^ (64 - i) := by rw [← Int.pow_add]; congr 1; omega
  have hq := pow2_pos (64 - i)
  have h2 : (2 : Int) ^ i * 1 ≤ 2 ^ i * 2 ^ (64 - i) := Int.mul_le_mul_of_nonneg_left (by omega) (by omega)
  have h3 : x * 2 ^ i ≤ x * 2 ^ 64 := Int.mul_le_mul_of_nonneg_left (by omega) h0
  have h4 : 0 ≤ x * 2 ^ i := Int.mul_nonneg h0 (by omega)
  exact bits_fit (k := 1) (by omega)
section
variable {Ω : Wd} (hΩ : Ω.K = K0 Ω.w.params)
include hΩ
theorem sp252 : Sp Ω 2 252 (gop1 Ω 12) := sp_fn (fk252 hΩ) (dv252 hΩ) fun ds Q E hds => by
  obtain ⟨a, k, x, e, io, hx, hq⟩ := hds
  subst e
  refine ⟨rfl, ?_⟩
  have hk := io.kd
  have hk9 := kd_le hk
  have hq' : Q (.int (lz x (8 * k) : Nat)) := hq _ rfl
  have hx0 : 0 ≤ x ∧ x < 2 ^ 64 := ⟨(ink_u hx).1, (ink_bd hk hx).2⟩
  simp only [T252, sCons, sRet, sNil, sAssign]
  refine ⟨_, rfl, a, _, rfl, io.bl, 8 * k, rfl, Nat.lt_of_le_of_lt (le64 hk9) (by decide), ?_⟩
  refine loopT_range (fun i ρ => ρ 0 = some (.val (.ref a)) ∧ ρ 4 = some (.val (.int (x * 2 ^ i))) ∧ ρ 5 = some (.val (.int (i : Nat))) ∧ lz x (8 * k) = i + lz x (8 * k - i)) ⟨rfl, by show some _ = _; rw [Int.pow_zero, Int.mul_one], rfl, by rw [Nat.zero_add]; rfl⟩ (fun i ρ hi ⟨h0, h4, h5, h6⟩ K k1 _ k3 _ => ?_) (fun ρ ⟨h0, h4, h5, h6⟩ => ⟨_, h5, _, rfl, ?_⟩)
  · rw [lz_step x hi] at h6
    have hm : x * 2 ^ i / 2 ^ (8 * k - 1) % 2 = x / 2 ^ (8 * k - 1 - i) % 2 := by rw [mul_bit, if_neg (Nat.not_lt.mpr (Nat.le_sub_one_of_lt hi))]
    have hp := pow2_pos (8 * k - 1)
    have hbits := shl_bits hx0.1 hx0.2 (Nat.le_trans (Nat.le_of_lt hi) (le64 hk9))
    simp only [B252, sCons, sNil, sRet, sAssign, sIf, sAssert, sAug, sFlow, tIte, tTest, tAnd, tOr, tBin, tNeg, tVar, tLit, tCall, lCons, lNil, tTup, tList, bindR, upd, rho0, dSub, dAddI, D.int.injEq, D.bool.injEq, D.list.injEq, D.str.injEq, D.ref.injEq, D.tup.injEq, exists_eq_left', exists_eq_left, exists_and_left, true_and, and_true, reduceIte, Nat.reduceEqDiff, Option.some.injEq, Sl.val.injEq, Flw.ret.injEq, List.cons.injEq, dEq_ii, dEq_ss, dEq_ll, dNe_ii, dNe_ss, dNe_bb, dNe_ll, Sl.own.injEq, dAndI, dShl, h0, h4, h5, tAttr]
    refine ⟨_, io.ms, ?_⟩
    rw [kbt_bit, hm]
    by_cases h : x / 2 ^ (8 * k - 1 - i) % 2 = 1
    · rw [if_pos h] at h6
      rw [h, show ((1 : Int) * 2 ^ (8 * k - 1) != 0) = true by simp; omega]
      refine k3 _ ⟨(.int (i : Nat)), ?_, _, rfl, ?_⟩
      · simp only [sCons, sNil, sRet, sAssign, sIf, sAssert, sAug, sFlow, tIte, tTest, tAnd, tOr, tBin, tNeg, tVar, tLit, tCall, lCons, lNil, tTup, tList, bindR, upd, rho0, dSub, dAddI, D.int.injEq, D.bool.injEq, D.list.injEq, D.str.injEq, D.ref.injEq, D.tup.injEq, exists_eq_left', exists_eq_left, exists_and_left, true_and, and_true, reduceIte, Nat.reduceEqDiff, Option.some.injEq, Sl.val.injEq, Flw.ret.injEq, List.cons.injEq, dEq_ii, dEq_ss, dEq_ll, dNe_ii, dNe_ss, dNe_bb, dNe_ll, Sl.own.injEq, h5]
      · rw [h6] at hq'; exact hq'
    · rw [if_neg h] at h6
      rw [show x / 2 ^ (8 * k - 1 - i) % 2 = 0 by omega, Int.zero_mul]
      simp only [bne_self_eq_false, Bool.false_eq_true, if_false, sCons, sNil, sRet, sAssign, sIf, sAssert, sAug, sFlow, tIte, tTest, tAnd, tOr, tBin, tNeg, tVar, tLit, tCall, lCons, lNil, tTup, tList, bindR, upd, rho0, dSub, dAddI, D.int.injEq, D.bool.injEq, D.list.injEq, D.str.injEq, D.ref.injEq, D.tup.injEq, exists_eq_left', exists_eq_left, exists_and_left, true_and, and_true, reduceIte, Nat.reduceEqDiff, Option.some.injEq, Sl.val.injEq, Flw.ret.injEq, List.cons.injEq, dEq_ii, dEq_ss, dEq_ll, dNe_ii, dNe_ss, dNe_bb, dNe_ll, Sl.own.injEq, h4, h5]
      refine ⟨by decide, by omega, k1 _ ⟨?_, ?_, ?_, ?_⟩⟩
      · simp only [sCons, sNil, sRet, sAssign, sIf, sAssert, sAug, sFlow, tIte, tTest, tAnd, tOr, tBin, tNeg, tVar, tLit, tCall, lCons, lNil, tTup, tList, bindR, upd, rho0, dSub, dAddI, D.int.injEq, D.bool.injEq, D.list.injEq, D.str.injEq, D.ref.injEq, D.tup.injEq, exists_eq_left', exists_eq_left, exists_and_left, true_and, and_true, reduceIte, Nat.reduceEqDiff, Option.some.injEq, Sl.val.injEq, Flw.ret.injEq, List.cons.injEq, dEq_ii, dEq_ss, dEq_ll, dNe_ii, dNe_ss, dNe_bb, dNe_ll, Sl.own.injEq]; exact h0
      · simp only [sCons, sNil, sRet, sAssign, sIf, sAssert, sAug, sFlow, tIte, tTest, tAnd, tOr, tBin, tNeg, tVar, tLit, tCall, lCons, lNil, tTup, tList, bindR, upd, rho0, dSub, dAddI, D.int.injEq, D.bool.injEq, D.list.injEq, D.str.injEq, D.ref.injEq, D.tup.injEq, exists_eq_left', exists_eq_left, exists_and_left, true_and, and_true, reduceIte, Nat.reduceEqDiff, Option.some.injEq, Sl.val.injEq, Flw.ret.injEq, List.cons.injEq, dEq_ii, dEq_ss, dEq_ll, dNe_ii, dNe_ss, dNe_bb, dNe_ll, Sl.own.injEq]; rw [Int.pow_succ, Int.mul_assoc]; rfl
      · simp only [sCons, sNil, sRet, sAssign, sIf, sAssert, sAug, sFlow, tIte, tTest, tAnd, tOr, tBin, tNeg, tVar, tLit, tCall, lCons, lNil, tTup, tList, bindR, upd, rho0, dSub, dAddI, D.int.injEq, D.bool.injEq, D.list.injEq, D.str.injEq, D.ref.injEq, D.tup.injEq, exists_eq_left', exists_eq_left, exists_and_left, true_and, and_true, reduceIte, Nat.reduceEqDiff, Option.some.injEq, Sl.val.injEq, Flw.ret.injEq, List.cons.injEq, dEq_ii, dEq_ss, dEq_ll, dNe_ii, dNe_ss, dNe_bb, dNe_ll, Sl.own.injEq]; rfl
      · omega
  · rw [Nat.sub_self] at h6
    rw [h6] at hq'; exact hq'
end
end Mine
end
section
open PySem PySem.W PyProof.Rows PySem.Calls
set_option Elab.async false
set_option linter.all false
set_option autoImplicit false
set_option maxRecDepth 100000
namespace Mine
theorem SpecN.mono {Ω : Wd} {m n : Nat} {f : Value} {τ τ' : FT} (h : SpecN Ω m f τ) (hn : m ≤ n) (ht : ∀ ds Q E, τ' ds Q E → τ ds Q E) : SpecN Ω n f τ' :=
  fun c A W ρ Q s ds vs a I r q => h c A W ρ Q s ds vs (a.mono hn) I r (ht _ _ _ q)
theorem sp_fnN {Ω : Wd} {n : Nat} {f : Addr} {fd : FuncData} {is : List Nat} {body : List Stmt} {t : TS} {τ : FT} (K : FnK Ω f fd is body) (hb : ∀ L outer O, Wr (EXsN Ω n (fctx fd f L outer O) body t))
    (ht : ∀ ds Q E, τ ds Q E → fSpec is t ds Q E) : SpecN Ω (n + 1) (.ref f) τ := SpecN.mono (specN_fn K fun L o O => (hb L o O).h) (Nat.le_refl _) ht
noncomputable def gInto (Ω : Wd) (sg : Bool) : FT := fun ds Q _ => ∃ a k x, ds = [.ref a, .int x] ∧ IOk Ω a k sg ∧ InK k sg x ∧ Q (.barr (octs x k))
noncomputable def gFrom (Ω : Wd) (sg : Bool) : FT := fun ds Q _ => ∃ a k x, ds = [.ref a, .barr (octs x k)] ∧ IOk Ω a k sg ∧ InK k sg x ∧ Q (.int x)
theorem fit_to {k : Nat} {sg : Bool} {x : Int} (h : InK k sg x) : ToFit sg x k := by
  unfold InK lov hiv at h
  unfold ToFit
  cases sg <;> simp only [Bool.false_eq_true, if_false, if_true] at * <;> omega
section
variable {Ω : Wd} (hΩ : Ω.K = K0 Ω.w.params)
include hΩ
theorem sp42 : SpecN Ω 1 (.ref 42) (gInto Ω true) := sp_fnN (fk42 hΩ) (dv42 hΩ) fun ds Q E hds => by
  obtain ⟨a, k, x, e, io, hx, hq⟩ := hds
  subst e
  refine ⟨rfl, ?_⟩
  have hk9 := kd_le io.kd
  simp only [T42, sCons, sRet, sNil, sAssign]
  exact ⟨_, rfl, x, rfl, _, rfl, a, _, rfl, io.by1, k, rfl, hk9.1, hk9.2, fit_to hx, _, rfl, by rw [octs_length]; omega, _, rfl, hq⟩
theorem sp154 : SpecN Ω 1 (.ref 154) (gInto Ω false) := sp_fnN (fk154 hΩ) (dv154 hΩ) fun ds Q E hds => by
  obtain ⟨a, k, x, e, io, hx, hq⟩ := hds
  subst e
  refine ⟨rfl, ?_⟩
  have hk9 := kd_le io.kd
  simp only [T154, sCons, sRet, sNil, sAssign]
  exact ⟨_, rfl, x, rfl, _, rfl, a, _, rfl, io.by1, k, rfl, hk9.1, hk9.2, fit_to hx, _, rfl, by rw [octs_length]; omega, _, rfl, hq⟩
end
end Mine
end
section
open PySem PySem.W PyProof.Rows PySem.Calls
set_option Elab.async false
set_option linter.all false
set_option autoImplicit false
set_option maxRecDepth 100000
namespace Mine
theorem leV_octs {k : Nat} {sg : Bool} (hk : Kd k) {x : Int} (h : InK k sg x) : leV sg (octs x k) = x := by
  obtain ⟨G, h0, h1, e1, e2, e3, e4⟩ := kd_pow hk
  have hM : 0 < 256 * G := by omega
  unfold leV
  rw [leN_octs, octs_length]
  have hl : (octs x k).getLastD 0 = x / 256 ^ (k - 1) % 256 := by
    obtain ⟨m, rfl⟩ : ∃ m, k = m + 1 := ⟨k - 1, by rcases hk with rfl | rfl | rfl <;> rfl⟩
    rw [octs_succ, Nat.add_sub_cancel]
    simp
  unfold InK lov hiv at h
  rw [e2, e3] at h
  rw [hl, e1, e4]
  cases sg with
  | false =>
    rw [if_neg (by decide), if_neg (by decide)] at h
    rw [Bool.false_and, if_neg (by decide)]
    exact Int.emod_eq_of_lt h.1 (Int.lt_of_le_sub_one h.2)
  | true =>
    rw [if_pos rfl, if_pos rfl] at h
    rw [Bool.true_and]
    by_cases hx : x < 0
    · have d1 : -128 ≤ x / G := (Int.le_ediv_iff_mul_le h0).mpr (by omega)
      have d2 : x / G < 0 := Int.ediv_neg_of_neg_of_pos hx h0
      rw [decide_eq_true (by omega), if_pos rfl, show x = (x + 256 * G) + 256 * G * -1 by omega, Int.add_mul_emod_self_left, Int.emod_eq_of_lt (by omega) (by omega)]
      omega
    · have d1 : 0 ≤ x / G := Int.ediv_nonneg (by omega) (Int.le_of_lt h0)
      have d2 : x / G < 128 := (Int.ediv_lt_iff_lt_mul h0).mpr (by omega)
      rw [decide_eq_false (by omega), if_neg (by decide)]
      exact Int.emod_eq_of_lt (by omega) (by omega)
section
variable {Ω : Wd} (hΩ : Ω.K = K0 Ω.w.params)
include hΩ
theorem sp35 : Sp Ω 1 35 (gFrom Ω true) := sp_fn (fk35 hΩ) (dv35 hΩ) fun ds Q E hds => by
  obtain ⟨a, k, x, e, io, hx, hq⟩ := hds
  subst e
  refine ⟨rfl, ?_⟩
  have hk9 := kd_le io.kd
  simp only [T35, sCons, sRet, sNil, sAssert]
  refine ⟨_, rfl, _, rfl, by rw [octs_length]; omega, _, rfl, a, _, rfl, io.by1, ?_⟩
  refine eq_ii ⟨_, rfl, ?_⟩
  rw [octs_length, show ((k : Int) == (k : Int)) = true by simp]
  exact ⟨_, rfl, _, rfl, by rw [octs_length]; omega, by rw [octs_length]; omega, _, rfl, by rw [leV_octs io.kd hx]; exact hq⟩
theorem sp147 : Sp Ω 1 147 (gFrom Ω false) := sp_fn (fk147 hΩ) (dv147 hΩ) fun ds Q E hds => by
  obtain ⟨a, k, x, e, io, hx, hq⟩ := hds
  subst e
  refine ⟨rfl, ?_⟩
  have hk9 := kd_le io.kd
  simp only [T147, sCons, sRet, sNil, sAssert]
  refine ⟨_, rfl, _, rfl, by rw [octs_length]; omega, _, rfl, a, _, rfl, io.by1, ?_⟩
  refine eq_ii ⟨_, rfl, ?_⟩
  rw [octs_length, show ((k : Int) == (k : Int)) = true by simp]
  exact ⟨_, rfl, _, rfl, by rw [octs_length]; omega, by rw [octs_length]; omega, _, rfl, by rw [leV_octs io.kd hx]; exact hq⟩
end
end Mine
end
section
open PySem PySem.W PyProof.Rows PySem.Calls
set_option Elab.async false
set_option linter.all false
set_option autoImplicit false
set_option maxRecDepth 100000
namespace Mine
structure Ki (Ω : Wd) (a : Addr) (k : Nat) (sg : Bool) : Prop where
  io : IOk Ω a k sg
  mi : sg = true → MI Ω a
  mu : sg = false → MU Ω a
  ni : sg = true → NI Ω a
  nu : sg = false → NU Ω a
noncomputable def gop (Ω : Wd) (sg : Bool) (nm : Nat) : FT := if sg = true then gopI Ω nm else gopU Ω nm
theorem gop_mk {Ω : Wd} {a : Addr} {k nm : Nat} {sg : Bool} {x y : Int} {Q : D → Prop} {E : Nat → Prop} (K : Ki Ω a k sg) (hx : InK k sg x) (hy : InK k sg y) (h : (res nm k sg x y).go Q E) : gop Ω sg nm [.ref a, .int x, .int y] Q E := by
  unfold gop
  cases sg with
  | true => rw [if_pos rfl]; exact ⟨a, k, x, y, rfl, K.io, K.mi rfl, hx, hy, h⟩
  | false => rw [if_neg (by decide)]; exact ⟨a, k, x, y, rfl, K.io, K.mu rfl, hx, hy, h⟩
noncomputable def g386 (Ω : Wd) : FT := fun ds Q _ => ∃ a nm x y k sg, ds = [.ref a, .str nm, .int x, .int y] ∧ Ki Ω a k sg ∧ nm < 15 ∧ (nm ≠ 9 → InK k sg x) ∧ InK k sg y ∧ (10 ≤ nm → sg = false) ∧ Q ((res nm k sg x y).told)
theorem res_ok {k : Nat} {sg : Bool} {x y : Int} : ∀ {nm : Nat}, nm ≠ 5 → nm ≠ 6 → ∃ v, res nm k sg x y = .ok v
  | 0, _, _ => ⟨_, rfl⟩
  | 1, _, _ => ⟨_, rfl⟩
  | 2, _, _ => ⟨_, rfl⟩
  | 3, _, _ => ⟨_, rfl⟩
  | 4, _, _ => ⟨_, rfl⟩
  | 5, h, _ => absurd rfl h
  | 6, _, h => absurd rfl h
  | 7, _, _ => ⟨_, rfl⟩
  | 8, _, _ => ⟨_, rfl⟩
  | 9, _, _ => ⟨_, rfl⟩
  | 10, _, _ => ⟨_, rfl⟩
  | 11, _, _ => ⟨_, rfl⟩
  | 12, _, _ => ⟨_, rfl⟩
  | 13, _, _ => ⟨_, rfl⟩
  | _ + 14, _, _ => ⟨_, rfl⟩
theorem rq_no {nm k : Nat} {sg : Bool} {x y : Int} {c : Nat} (h : rq nm k sg x y = .no c) : c = 15 ∨ c = 16 := by
  unfold rq at h
  by_cases h0 : y = 0
  · rw [if_pos h0] at h; cases h; exact .inl rfl
  · rw [if_neg h0] at h
    by_cases h6 : nm = 6
    · rw [if_pos h6] at h; cases h
    · rw [if_neg h6] at h
      by_cases hi : lov k sg ≤ tq x y ∧ tq x y ≤ hiv k sg
      · rw [if_pos hi] at h; cases h
      · rw [if_neg hi] at h; cases h; exact .inr rfl
theorem res_no {nm k : Nat} {sg : Bool} {x y : Int} {c : Nat} (h : res nm k sg x y = .no c) : c = 15 ∨ c = 16 := by
  by_cases h5 : nm = 5
  · subst h5; exact rq_no (nm := 5) h
  by_cases h6 : nm = 6
  · subst h6; exact rq_no (nm := 6) h
  obtain ⟨v, hv⟩ := res_ok (k := k) (sg := sg) (x := x) (y := y) h5 h6
  rw [hv] at h; cases h
theorem go_told {nm k : Nat} {sg : Bool} {x y : Int} {Q R : D → Prop} {E : Nat → Prop} (h : Q ((res nm k sg x y).told)) (hR : ∀ v, Q (.int v) → R (.int v)) (h0 : Q (.str 15) → E 0) (h1 : Q (.str 16) → E 1) : (res nm k sg x y).go R E := by
  cases hr : res nm k sg x y with
  | ok v => rw [hr] at h; exact hR _ h
  | no c =>
    rw [hr] at h
    unfold Res.go
    rcases res_no hr with rfl | rfl
    · exact h0 h
    · exact h1 h
theorem last15 {nm : Nat} (h : nm < 15) (h0 : nm ≠ 0) (h1 : nm ≠ 1) (h2 : nm ≠ 2) (h3 : nm ≠ 3) (h4 : nm ≠ 4) (h5 : nm ≠ 5) (h6 : nm ≠ 6) (h7 : nm ≠ 7) (h8 : nm ≠ 8) (h9 : nm ≠ 9) (h10 : nm ≠ 10) (h11 : nm ≠ 11) (h12 : nm ≠ 12) (h13 : nm ≠ 13) : nm = 14 :=
  Nat.le_antisymm (Nat.le_of_lt_succ h) (Nat.le_of_not_lt fun q => absurd (sd (sd (sd (sd q h13) h12) h11) h10) (Nat.not_lt.mpr (from10 h0 h1 h2 h3 h4 h5 h6 h7 h8 h9)))
theorem one_told {nm k : Nat} {sg : Bool} {x y v : Int} {Q : D → Prop} (hv : res (nm + 12) k sg x 0 = .ok v) (hq : Q ((res (nm + 12) k sg x y).told)) : Q (.int v) := by
  have e : res (nm + 12) k sg x y = res (nm + 12) k sg x 0 := by
    match nm with
    | 0 => rfl
    | 1 => rfl
    | _ + 2 => rfl
  rw [e, hv] at hq
  exact hq
section
variable {Ω : Wd} (hΩ : Ω.K = K0 Ω.w.params)
include hΩ
theorem ki275 : Ki Ω 275 1 true := ⟨io275 hΩ, (fun _ => mt275 hΩ), (fun h => (by cases h)), (fun _ => mn275 hΩ), (fun h => (by cases h))⟩
theorem ki281 : Ki Ω 281 2 true := ⟨io281 hΩ, (fun _ => mt281 hΩ), (fun h => (by cases h)), (fun _ => mn281 hΩ), (fun h => (by cases h))⟩
theorem ki287 : Ki Ω 287 8 true := ⟨io287 hΩ, (fun _ => mt287 hΩ), (fun h => (by cases h)), (fun _ => mn287 hΩ), (fun h => (by cases h))⟩
theorem ki278 : Ki Ω 278 1 false := ⟨io278 hΩ, (fun h => (by cases h)), (fun _ => mt278 hΩ), (fun h => (by cases h)), (fun _ => mn278 hΩ)⟩
theorem ki284 : Ki Ω 284 2 false := ⟨io284 hΩ, (fun h => (by cases h)), (fun _ => mt284 hΩ), (fun h => (by cases h)), (fun _ => mn284 hΩ)⟩
theorem ki290 : Ki Ω 290 8 false := ⟨io290 hΩ, (fun h => (by cases h)), (fun _ => mt290 hΩ), (fun h => (by cases h)), (fun _ => mn290 hΩ)⟩
theorem mo_add {a : Addr} {k : Nat} {sg : Bool} (K : Ki Ω a k sg) : MethOk Ω 2 a (Str.ofString "add") (gop Ω sg 0) := by
  cases sg with
  | true => exact (K.mi rfl).add (sp63 hΩ)
  | false => exact (K.mu rfl).add (sp175 hΩ)
theorem mo_sub {a : Addr} {k : Nat} {sg : Bool} (K : Ki Ω a k sg) : MethOk Ω 2 a (Str.ofString "sub") (gop Ω sg 1) := by
  cases sg with
  | true => exact (K.mi rfl).sub (sp77 hΩ)
  | false => exact (K.mu rfl).sub (sp189 hΩ)
theorem mo_mul {a : Addr} {k : Nat} {sg : Bool} (K : Ki Ω a k sg) : MethOk Ω 2 a (Str.ofString "mul") (gop Ω sg 2) := by
  cases sg with
  | true => exact (K.mi rfl).mul (sp91 hΩ)
  | false => exact (K.mu rfl).mul (sp203 hΩ)
theorem mo_add_sat {a : Addr} {k : Nat} {sg : Bool} (K : Ki Ω a k sg) : MethOk Ω 2 a (Str.ofString "add_sat") (gop Ω sg 3) := by
  cases sg with
  | true => exact (K.mi rfl).add_sat (sp70 hΩ)
  | false => exact (K.mu rfl).add_sat (sp182 hΩ)
theorem mo_sub_sat {a : Addr} {k : Nat} {sg : Bool} (K : Ki Ω a k sg) : MethOk Ω 2 a (Str.ofString "sub_sat") (gop Ω sg 4) := by
  cases sg with
  | true => exact (K.mi rfl).sub_sat (sp84 hΩ)
  | false => exact (K.mu rfl).sub_sat (sp196 hΩ)
theorem mo_div {a : Addr} {k : Nat} {sg : Bool} (K : Ki Ω a k sg) : MethOk Ω 2 a (Str.ofString "div") (gop Ω sg 5) := by
  cases sg with
  | true => exact (K.mi rfl).div (sp98 hΩ)
  | false => exact (K.mu rfl).div (sp210 hΩ)
theorem mo_rem {a : Addr} {k : Nat} {sg : Bool} (K : Ki Ω a k sg) : MethOk Ω 2 a (Str.ofString "rem") (gop Ω sg 6) := by
  cases sg with
  | true => exact (K.mi rfl).rem (sp105 hΩ)
  | false => exact (K.mu rfl).rem (sp217 hΩ)
theorem mo_shl {a : Addr} {k : Nat} {sg : Bool} (K : Ki Ω a k sg) : MethOk Ω 2 a (Str.ofString "shl") (gop Ω sg 7) := by
  cases sg with
  | true => exact (K.mi rfl).shl (sp112 hΩ)
  | false => exact (K.mu rfl).shl (sp224 hΩ)
theorem mo_shr {a : Addr} {k : Nat} {sg : Bool} (K : Ki Ω a k sg) : MethOk Ω 2 a (Str.ofString "shr") (gop Ω sg 8) := by
  cases sg with
  | true => exact (K.mi rfl).shr (sp119 hΩ)
  | false => exact (K.mu rfl).shr (sp231 hΩ)
theorem mo_sat {a : Addr} {k : Nat} {sg : Bool} (K : Ki Ω a k sg) : MethOk Ω 2 a (Str.ofString "sat") (gsat Ω sg) := by
  cases sg with
  | true => exact (K.mi rfl).sat ((sp56 hΩ).mono (by decide))
  | false => exact (K.mu rfl).sat ((sp168 hΩ).mono (by decide))
theorem mo_rotl {a : Addr} {k : Nat} (K : Ki Ω a k false) : MethOk Ω 2 a (Str.ofString "rotl") (gop Ω false 10) := (K.mu rfl).rotl (sp238 hΩ)
theorem mo_rotr {a : Addr} {k : Nat} (K : Ki Ω a k false) : MethOk Ω 2 a (Str.ofString "rotr") (gop Ω false 11) := (K.mu rfl).rotr (sp245 hΩ)
theorem mo_clz {a : Addr} {k : Nat} (K : Ki Ω a k false) : MethOk Ω 2 a (Str.ofString "clz") (gop1 Ω 12) := (K.mu rfl).clz (sp252 hΩ)
theorem mo_ctz {a : Addr} {k : Nat} (K : Ki Ω a k false) : MethOk Ω 2 a (Str.ofString "ctz") (gop1 Ω 13) := (K.mu rfl).ctz (sp259 hΩ)
theorem mo_popcnt {a : Addr} {k : Nat} (K : Ki Ω a k false) : MethOk Ω 2 a (Str.ofString "popcnt") (gop1 Ω 14) := (K.mu rfl).popcnt (sp266 hΩ)
set_option maxHeartbeats 2000000 in
theorem sp386 : Sp Ω 3 386 (g386 Ω) := sp_fn (fk386 hΩ) (dv386 hΩ) fun ds Q E hds => by
  obtain ⟨a, nm, x, y, k, sg, e, K, hnm, hx9, hy, hsg, hq⟩ := hds
  subst e
  refine ⟨rfl, ?_⟩
  have fin : (res nm k sg x y).go (fun d => ∃ d', Flw.ret d = Flw.ret d' ∧ Q d') (fun k => k < 2 ∧ ∃ i, List.lookup k [(0, 15), (1, 16)] = some i ∧ ∃ d', Flw.ret (D.str i) = Flw.ret d' ∧ Q d') := go_told hq (fun v h => ⟨_, rfl, h⟩) (fun h => ⟨by decide, 15, rfl, _, rfl, h⟩) (fun h => ⟨by decide, 16, rfl, _, rfl, h⟩)
  unfold T386
  refine s_try ?_
  refine s_str (nm := nm) rfl (fun h0 => ?_) (fun h0 => ?_)
  · subst h0
    exact tm2 rfl rfl rfl (mo_add hΩ K) (gop_mk K (hx9 (by decide)) hy fin)
  refine s_str (nm := nm) rfl (fun h1 => ?_) (fun h1 => ?_)
  · subst h1
    exact tm2 rfl rfl rfl (mo_sub hΩ K) (gop_mk K (hx9 (by decide)) hy fin)
  refine s_str (nm := nm) rfl (fun h2 => ?_) (fun h2 => ?_)
  · subst h2
    exact tm2 rfl rfl rfl (mo_mul hΩ K) (gop_mk K (hx9 (by decide)) hy fin)
  refine s_str (nm := nm) rfl (fun h3 => ?_) (fun h3 => ?_)
  · subst h3
    exact tm2 rfl rfl rfl (mo_add_sat hΩ K) (gop_mk K (hx9 (by decide)) hy fin)
  refine s_str (nm := nm) rfl (fun h4 => ?_) (fun h4 => ?_)
  · subst h4
    exact tm2 rfl rfl rfl (mo_sub_sat hΩ K) (gop_mk K (hx9 (by decide)) hy fin)
  refine s_str (nm := nm) rfl (fun h5 => ?_) (fun h5 => ?_)
  · subst h5
    exact tm2 rfl rfl rfl (mo_div hΩ K) (gop_mk K (hx9 (by decide)) hy fin)
  refine s_str (nm := nm) rfl (fun h6 => ?_) (fun h6 => ?_)
  · subst h6
    exact tm2 rfl rfl rfl (mo_rem hΩ K) (gop_mk K (hx9 (by decide)) hy fin)
  refine s_str (nm := nm) rfl (fun h7 => ?_) (fun h7 => ?_)
  · subst h7
    exact tm2 rfl rfl rfl (mo_shl hΩ K) (gop_mk K (hx9 (by decide)) hy fin)
  refine s_str (nm := nm) rfl (fun h8 => ?_) (fun h8 => ?_)
  · subst h8
    exact tm2 rfl rfl rfl (mo_shr hΩ K) (gop_mk K (hx9 (by decide)) hy fin)
  refine s_str (nm := nm) rfl (fun h9 => ?_) (fun h9 => ?_)
  · subst h9
    exact tm1 rfl rfl (mo_sat hΩ K) ⟨a, k, _, rfl, K.io, _, rfl, hq⟩
  refine s_str (nm := nm) rfl (fun h10 => ?_) (fun h10 => ?_)
  · subst h10
    have hs := hsg (by decide)
    subst hs
    exact tm2 rfl rfl rfl (mo_rotl hΩ K) (gop_mk K (hx9 (by decide)) hy fin)
  refine s_str (nm := nm) rfl (fun h11 => ?_) (fun h11 => ?_)
  · subst h11
    have hs := hsg (by decide)
    subst hs
    exact tm2 rfl rfl rfl (mo_rotr hΩ K) (gop_mk K (hx9 (by decide)) hy fin)
  refine s_str (nm := nm) rfl (fun h12 => ?_) (fun h12 => ?_)
  · subst h12
    have hs := hsg (by decide)
    subst hs
    exact tm1 rfl rfl (mo_clz hΩ K) ⟨a, k, _, rfl, K.io, hx9 (by decide), fun v hv => ⟨_, rfl, one_told (nm := 0) (y := y) hv hq⟩⟩
  refine s_str (nm := nm) rfl (fun h13 => ?_) (fun h13 => ?_)
  · subst h13
    have hs := hsg (by decide)
    subst hs
    exact tm1 rfl rfl (mo_ctz hΩ K) ⟨a, k, _, rfl, K.io, hx9 (by decide), fun v hv => ⟨_, rfl, one_told (nm := 1) (y := y) hv hq⟩⟩
  have h14 : nm = 14 := last15 hnm h0 h1 h2 h3 h4 h5 h6 h7 h8 h9 h10 h11 h12 h13
  subst h14
  have hs := hsg (by decide)
  subst hs
  exact tm1 rfl rfl (mo_popcnt hΩ K) ⟨a, k, _, rfl, K.io, hx9 (by decide), fun v hv => ⟨_, rfl, one_told (nm := 2) (y := y) hv hq⟩⟩
end
end Mine
end
section
open PySem PySem.W PyProof.Rows PySem.Calls
set_option Elab.async false
set_option linter.all false
set_option autoImplicit false
set_option maxRecDepth 100000
namespace Mine
noncomputable def kinds : List D := [.tup [.ref 275, .int 1, .bool true], .tup [.ref 278, .int 1, .bool false], .tup [.ref 281, .int 2, .bool true], .tup [.ref 284, .int 2, .bool false], .tup [.ref 287, .int 8, .bool true], .tup [.ref 290, .int 8, .bool false]]
noncomputable def names : List D := (List.range 15).map D.str
noncomputable def g298 : FT := fun ds Q _ => ds = [] ∧ Q (.list kinds)
noncomputable def g305 : FT := fun ds Q _ => ds = [] ∧ Q (.list names)
noncomputable def g393 : FT := fun ds Q _ => ∃ z, ds = [.int z] ∧ Q (.bool true)
noncomputable def gfit (Ω : Wd) (sg : Bool) : FT := fun ds Q _ => ∃ a k n, ds = [.ref a, .int n] ∧ IOk Ω a k sg ∧ Q (.int (wrapv k sg n))
theorem ne_ss {Q : D → Prop} {E : Nat → Prop} {x y : Nat} (h : Q (.bool (x != y))) : dNe (.str x) (.str y) Q E := by rw [dNe_ss]; exact h
section
variable {Ω : Wd} (hΩ : Ω.K = K0 Ω.w.params)
include hΩ
theorem mo_fit {n : Nat} {a : Addr} {k : Nat} {sg : Bool} (K : Ki Ω a k sg) (hn : 1 ≤ n) : MethOk Ω n a (Str.ofString "fit") (gfit Ω sg) := by
  cases sg with
  | true => exact (K.mi rfl).fit ((sp49 hΩ).mono hn)
  | false => exact (K.mu rfl).fit ((sp161 hΩ).mono hn)
theorem sp298 : Sp Ω 1 298 g298 := sp_fn (fk298 hΩ) (dv298 hΩ) fun ds Q E hds => by
  obtain ⟨e, hq⟩ := hds
  subst e
  refine ⟨rfl, ?_⟩
  simp only [T298, sCons, sRet, sNil]
  exact ⟨sz_ok (by decide), sz_ok (by decide), sz_ok (by decide), sz_ok (by decide), sz_ok (by decide), sz_ok (by decide), sz_ok (by decide), _, rfl, hq⟩
theorem sp305 : Sp Ω 1 305 g305 := sp_fn (fk305 hΩ) (dv305 hΩ) fun ds Q E hds => by
  obtain ⟨e, hq⟩ := hds
  subst e
  refine ⟨rfl, ?_⟩
  simp only [T305, sCons, sRet, sNil]
  exact ⟨sz_ok (by decide), _, rfl, hq⟩
theorem kinds_at {d : D} (h : d ∈ kinds) : ∃ a k sg, d = .tup [.ref a, .int (k : Nat), .bool sg] ∧ Ki Ω a k sg := by
  unfold kinds at h
  simp only [List.mem_cons, List.not_mem_nil, or_false] at h
  rcases h with rfl | rfl | rfl | rfl | rfl | rfl
  · exact ⟨_, 1, _, rfl, ki275 hΩ⟩
  · exact ⟨_, 1, _, rfl, ki278 hΩ⟩
  · exact ⟨_, 2, _, rfl, ki281 hΩ⟩
  · exact ⟨_, 2, _, rfl, ki284 hΩ⟩
  · exact ⟨_, 8, _, rfl, ki287 hΩ⟩
  · exact ⟨_, 8, _, rfl, ki290 hΩ⟩
end
theorem rq_zero {nm k : Nat} {sg : Bool} {x : Int} : rq nm k sg x 0 = .no 15 := rfl
theorem rq_over {k : Nat} (hk : Kd k) : rq 5 k true (-(2 ^ (8 * k - 1))) (-1) = .no 16 := by rcases hk with rfl | rfl | rfl <;> rfl
theorem rq_nil {k : Nat} (hk : Kd k) : rq 6 k true (-(2 ^ (8 * k - 1))) (-1) = .ok 0 := by rcases hk with rfl | rfl | rfl <;> rfl
theorem told_ne {Ω : Wd} {ρ : Rho} {Q : Bool → Prop} {E : Nat → Prop} {a : Addr} {k nm j c : Nat} {sg : Bool} {v w : Int} {t : TE} (Kk : Ki Ω a k sg) (h27 : ρ 27 = some (.val (.ref a))) (hnm : nm < 9) (hv : InK k sg v) (hw : InK k sg w) (hj : ρ j = some (.val (.int v)))
    (ht : ∀ K' : D → Prop, K' (.int w) → t ρ K' E) (hr : (res nm k sg v w).told = .str c) (hq : Q false) : tTest (tBin dNe (tCall (g386 Ω) (lCons (tVar 27) (lCons (tLit (.str nm)) (lCons (tVar j) (lCons t lNil))))) (tLit (.str c))) ρ Q E :=
  ⟨_, h27, _, hj, ht _ ⟨a, nm, v, w, k, sg, rfl, Kk, by omega, fun _ => hv, hw, fun h => by omega, by
    rw [hr]
    simp only [tLit]
    refine ne_ss ?_
    exact ⟨_, rfl, by rw [show (c != c) = false by simp]; exact hq⟩⟩⟩
section
variable {Ω : Wd} (hΩ : Ω.K = K0 Ω.w.params)
include hΩ
set_option maxHeartbeats 1000000 in
theorem sp393 : Sp Ω 4 393 g393 := sp_fn (fk393 hΩ) (dv393 hΩ (sp386 hΩ).h ((sp298 hΩ).mono (by decide)).h) fun ds Q E hds => by
  obtain ⟨z, e, hq⟩ := hds
  subst e
  refine ⟨rfl, ?_⟩
  simp only [T393, sCons, sRet, sNil]
  refine ⟨rfl, kinds, rfl, fun d hd => ?_, ?_⟩
  · obtain ⟨a, k, sg, rfl, _⟩ := kinds_at hΩ hd
    exact ⟨_, rfl, rfl⟩
  refine loopT_list kinds (fun i ρ => ρ 6 = some (.val (.int z))) (fun i d ρ hd h6 K k1 k2 k3 k4 => ?_) (fun ρ h6 => ⟨_, rfl, hq⟩) 6 0 _ rfl rfl
  obtain ⟨a, k, sg, rfl, Kk⟩ := kinds_at hΩ (List.mem_of_getElem? hd)
  have hk := Kk.io.kd
  have hk9 := kd_le hk
  have hz := wrap_in (sg := sg) hk z
  have h0 : InK k sg 0 := by unfold InK lov hiv; rcases hk with rfl | rfl | rfl <;> cases sg <;> decide
  have e2 : (-((2 : Int) ^ ((8 * (k : Int) - 1).toNat))) = -(2 ^ (8 * k - 1)) := by rw [k8_pred hk9, Int.toNat_natCast]
  have hlo : InK k true (-(2 ^ (8 * k - 1))) := lo_in (sg := true) hk
  have hm1 : InK k true (-1) := by unfold InK lov hiv; rcases hk with rfl | rfl | rfl <;> decide
  unfold B393
  refine s_as (v := .int (wrapv k sg z)) (fun K hK => ⟨_, rfl, a, _, rfl, mo_fit hΩ Kk (by decide), _, h6, a, k, z, rfl, Kk.io, hK⟩) ?_
  refine s_as (v := .int (-(2 ^ (8 * k - 1)))) (fun K hK => ⟨_, rfl, 8, (k : Int), rfl, rfl, mul8 hk9, _, _, rfl, rfl, 2, _, rfl, rfl, (by omega : 0 ≤ 8 * (k : Int) - 1), (by omega : 8 * (k : Int) - 1 ≤ 1000000), by decide, _, rfl, by rw [e2]; exact hK⟩) ?_
  refine s_ifF (t_orF (fun K hK => told_ne (nm := 5) (j := 4) (v := wrapv k sg z) (w := 0) Kk rfl (by decide) hz h0 rfl (fun _ q => q) rfl hK) (fun K hK => told_ne (nm := 6) (j := 4) (v := wrapv k sg z) (w := 0) Kk rfl (by decide) hz h0 rfl (fun _ q => q) rfl hK)) ?_
  cases sg with
  | false => exact s_ifF (fun K hK => ⟨_, rfl, false, rfl, hK⟩) (k1 _ h6)
  | true =>
    have hr5 : (res 5 k true (-(2 ^ (8 * k - 1))) (-1)).told = .str 16 := by
      show (rq 5 k true (-(2 ^ (8 * k - 1))) (-1)).told = _
      rw [rq_over hk]; rfl
    have hr : res 6 k true (-(2 ^ (8 * k - 1))) (-1) = .ok 0 := rq_nil hk
    refine s_ifF (fun K hK => ⟨_, rfl, true, rfl, told_ne (nm := 5) (j := 28) (v := -(2 ^ (8 * k - 1))) (w := -1) Kk rfl (by decide) hlo hm1 rfl (fun _ q => ⟨1, rfl, q⟩) hr5 ⟨_, rfl, _, rfl, 1, rfl, a, 6, _, _, k, true, rfl, Kk, by decide, fun _ => hlo, hm1, fun q => absurd q (by decide), ?_⟩⟩) (k1 _ h6)
    rw [hr]
    simp only [tLit, Res.told]
    refine ne_ii ?_
    exact ⟨_, rfl, hK⟩
end
end Mine
end
section
open PySem PySem.W PyProof.Rows PySem.Calls
set_option Elab.async false
set_option linter.all false
set_option autoImplicit false
set_option maxRecDepth 100000
namespace Mine
noncomputable def R2 (Ω : Wd) (n : Nat) (τ393 : FT) (τ324 : FT) (τ386 : FT) (τ379 : FT) (τ331 : FT) (τ317 : FT) (τ312 : FT) (τ298 : FT) (τ305 : FT) : TS :=
  (sCons (sAssign 35 (tCall τ379 (lCons (tVar 21) (lCons (tVar 22) (lCons (tVar 23) (lCons (tVar 10) (lCons (tVar 11) lNil)))))))
  (sCons (sAssign 36 (tCall τ386 (lCons (tVar 27) (lCons (tVar 21) (lCons (tVar 4) (lCons (tVar 5) lNil))))))
  (sCons (sIf (tTest (tBin dInO (tVar 35) (tList (lCons (tLit (.str 15)) (lCons (tLit (.str 16)) lNil)))))
    (sCons (sIf (tTest (tBin dNe (tVar 36) (tVar 35)))
    (sCons (sRet (tLit (.bool false)))
  sNil)
    sNil)
  (sCons (sFlow .cont)
  sNil))
    sNil)
  (sCons (sIf (tOr (tTest (tBin dNe (tVar 36) (tCall τ324 (lCons (tVar 35) lNil)))) (tTest (tIsBool (tVar 36))))
    (sCons (sRet (tLit (.bool false)))
  sNil)
    sNil)
  (sCons (sAssign 37 (tMethN Ω n (Str.ofString "into_bytearray") (tVar 27) (lCons (tVar 36) lNil)))
  (sCons (sIf (tOr (tTest (tBin dNe (tCall fListB (lCons (tVar 37) lNil)) (tSlice (tVar 35) oNone (oSome (tVar 10))))) (tTest (tBin dNe (tMeth Ω n (Str.ofString "from_bytearray") (tVar 27) (lCons (tVar 37) lNil)) (tVar 36))))
    (sCons (sRet (tLit (.bool false)))
  sNil)
    sNil)
  (sCons (sAppend 31 (tVar 36))
  (sCons (sAppend 32 (tVar 35))
  sNil))))))))
noncomputable def R1 (Ω : Wd) (n : Nat) (τ393 : FT) (τ324 : FT) (τ386 : FT) (τ379 : FT) (τ331 : FT) (τ317 : FT) (τ312 : FT) (τ298 : FT) (τ305 : FT) : TS :=
  (sCons (sAssignTup [27, 10, 11] (tBin dIdx (tCall τ298 lNil) (tVar 33)))
  (sCons (sAssign 34 (tBin dIdx (tList (lCons (tIdxOwn 31 (tNeg (tLit (.int 2)))) (lCons (tCall τ312 (lCons (tBin dFdiv (tVar 6) (tLit (.int 15))) lNil)) (lCons (tNeg (tLit (.int 1))) lNil)))) (tBin dMod (tBin dAddI (tBin dFdiv (tVar 6) (tLit (.int 90))) (tVar 9)) (tLit (.int 3)))))
  (sCons (sAssign 22 (tCall τ331 (lCons (tIdxOwn 32 (tNeg (tLit (.int 1)))) (lCons (tVar 10) (lCons (tVar 11) lNil)))))
  (sCons (sAssign 23 (tCall τ331 (lCons (tCall τ317 (lCons (tVar 34) lNil)) (lCons (tVar 10) (lCons (tVar 11) lNil)))))
  (sCons (sAssign 4 (tMeth Ω n (Str.ofString "fit") (tVar 27) (lCons (tIdxOwn 31 (tNeg (tLit (.int 1)))) lNil)))
  (sCons (sAssign 5 (tMeth Ω n (Str.ofString "fit") (tVar 27) (lCons (tVar 34) lNil)))
  (sCons (sIf (tTest (tBin dNeT (tTup (lCons (tVar 4) (lCons (tVar 5) lNil))) (tTup (lCons (tCall τ324 (lCons (tVar 22) lNil)) (lCons (tCall τ324 (lCons (tVar 23) lNil)) lNil)))))
    (sCons (sRet (tLit (.bool false)))
  sNil)
    sNil)
  (sCons (sIf (tTest (tBin dEq (tVar 21) (tLit (.str 9))))
    (sCons (sAssign 4 (tIdxOwn 31 (tNeg (tLit (.int 1)))))
  (sCons (sAssign 22 (tIdxOwn 32 (tNeg (tLit (.int 1)))))
  sNil))
    sNil)
  (R2 Ω n τ393 τ324 τ386 τ379 τ331 τ317 τ312 τ298 τ305)))))))))
theorem b400_eq (Ω : Wd) (n : Nat) (τ393 : FT) (τ324 : FT) (τ386 : FT) (τ379 : FT) (τ331 : FT) (τ317 : FT) (τ312 : FT) (τ298 : FT) (τ305 : FT) : B400 Ω n τ393 τ324 τ386 τ379 τ331 τ317 τ312 τ298 τ305 =
  (sCons (sAssign 21 (tBin dIdx (tCall τ305 lNil) (tBin dMod (tVar 6) (tLit (.int 15)))))
  (sCons (sAssign 33 (tBin dMod (tBin dAddI (tBin dFdiv (tVar 6) (tLit (.int 15))) (tVar 9)) (tLit (.int 6))))
  (sCons (sIf (tTest (tBin dIn (tVar 21) (tList (lCons (tLit (.str 10)) (lCons (tLit (.str 11)) (lCons (tLit (.str 12)) (lCons (tLit (.str 13)) (lCons (tLit (.str 14)) lNil))))))))
    (sCons (sAssign 33 (tBin dAddI (tBin dMulI (tBin dFdiv (tVar 33) (tLit (.int 2))) (tLit (.int 2))) (tLit (.int 1))))
  sNil)
    sNil)
  (R1 Ω n τ393 τ324 τ386 τ379 τ331 τ317 τ312 τ298 τ305)))) := rfl
noncomputable def rws (hs : List Int) : List D := hs.map fun z => .list (il (row z))
theorem ne_ll {Q : D → Prop} {E : Nat → Prop} {x y : List Int} (h : Q (.bool (!decide (x = y)))) : dNe (.list (il x)) (.list (il y)) Q E := by rw [dNe_ll]; exact h
theorem idx_l {Q : D → Prop} {E : Nat → Prop} {ds : List D} {k : Int} (i : Nat) (d : D) (e : k = (i : Int)) (h : ds[i]? = some d) (hl : ds.length < 2 ^ 62) (hq : Q d) : dIdx (.list ds) (.int k) Q E := by
  have hi := (List.getElem?_eq_some_iff.mp h).1
  exact ⟨k, rfl, by omega, by omega, .inl ⟨ds, i, d, rfl, seq_pos e hi, h, hq⟩⟩
theorem seq_back {n m : Nat} {k : Int} (hm : m < n) (hk : k = (m : Int) - n) : seqIndex? k n = some m := by
  unfold seqIndex?
  have h1 : k < 0 := by omega
  have h2 : 0 ≤ k + n ∧ k + n < n := by omega
  have h3 : (k + (n : Int)).toNat = m := by omega
  simp only [h1, if_true, h2, h3]
  simp [hm]
theorem res_in {nm k : Nat} {sg : Bool} (hk : Kd k) {x y v : Int} (hx : nm ≠ 9 → InK k sg x) (hsg : 10 ≤ nm → sg = false) (hy : InK k sg y) (h : res nm k sg x y = .ok v) : InK k sg v := by
  have small : ∀ c : Nat, c ≤ 8 * k → InK k false (c : Int) := fun c hc => by
    have h64 : (2 : Int) ^ (8 * k) = ((2 ^ (8 * k) : Nat) : Int) := by rw [Int.natCast_pow]; rfl
    unfold InK lov hiv
    rw [if_neg (by decide), if_neg (by decide), h64]
    exact ⟨Int.natCast_nonneg _, Int.le_sub_one_of_lt (Int.ofNat_lt.mpr (Nat.lt_of_le_of_lt hc Nat.lt_two_pow_self))⟩
  have trIn : InK k sg x → y ≠ 0 → InK k sg (tr x y) := fun hx h0 => by
    have h1 : 0 ≤ mag x := (mag_bd hk hx).1
    have h2 := magq (y := y) (.inr trivial) h1 (mag_pos h0)
    have h3 : mag x % mag y ≤ mag x := by
      by_cases hl : mag x < mag y
      · rw [Int.emod_eq_of_lt h1 hl]; exact Int.le_refl _
      · exact Int.le_trans (Int.le_of_lt h2.2.2.2) (Int.not_lt.mp hl)
    have h4 := h2.2.2.1
    have hlo := lo_le_hi (sg := sg) hk
    clear h2 small hy hsg h hk h1
    unfold tr
    unfold InK at hx ⊢
    generalize lov k sg = lo at *
    generalize hiv k sg = hi at *
    generalize mag x % mag y = r at *
    unfold mag at h3
    by_cases hneg : x < 0
    · rw [if_pos hneg] at h3 ⊢; omega
    · rw [if_neg hneg] at h3 ⊢; omega
  match nm, hx, hsg, h with
  | 0, _, _, h => cases h; exact wrap_in hk _
  | 1, _, _, h => cases h; exact wrap_in hk _
  | 2, _, _, h => cases h; exact wrap_in hk _
  | 3, _, _, h => cases h; exact clamp_in hk _
  | 4, _, _, h => cases h; exact clamp_in hk _
  | 5, _, _, h =>
    have h : rq 5 k sg x y = .ok v := h
    unfold rq at h
    rw [if_neg (by decide : ¬ 5 = 6)] at h
    by_cases h0 : y = 0
    · rw [if_pos h0] at h; cases h
    · rw [if_neg h0] at h
      by_cases hi : lov k sg ≤ tq x y ∧ tq x y ≤ hiv k sg
      · rw [if_pos hi] at h; cases h; exact hi
      · rw [if_neg hi] at h; cases h
  | 6, hx, _, h =>
    have h : rq 6 k sg x y = .ok v := h
    unfold rq at h
    rw [if_pos rfl] at h
    by_cases h0 : y = 0
    · rw [if_pos h0] at h; cases h
    · rw [if_neg h0] at h; cases h; exact trIn (hx (by decide)) h0
  | 7, _, _, h => cases h; exact wrap_in hk _
  | 8, _, _, h => cases h; exact wrap_in hk _
  | 9, _, _, h => cases h; exact clamp_in hk _
  | 10, _, _, h => cases h; exact wrap_in hk _
  | 11, _, _, h => cases h; exact wrap_in hk _
  | 12, _, hsg, h => cases h; rw [hsg (by decide)]; exact small _ (lz_le _ _)
  | 13, _, hsg, h => cases h; rw [hsg (by decide)]; exact small _ (tz_le _ _ _)
  | n + 14, _, hsg, h => cases h; rw [hsg (Nat.le_trans (by decide : 10 ≤ 14) (Nat.le_add_left _ _))]; exact small _ (pc_le _ _)
section
variable {Ω : Wd} (hΩ : Ω.K = K0 Ω.w.params)
include hΩ
theorem mo_into {n : Nat} {a : Addr} {k : Nat} {sg : Bool} (K : Ki Ω a k sg) (hn : 1 ≤ n) : MethOkN Ω n a (Str.ofString "into_bytearray") (gInto Ω sg) := by
  cases sg with
  | true => exact (K.ni rfl).into (SpecN.mono (sp42 hΩ) hn fun _ _ _ q => q)
  | false => exact (K.nu rfl).into (SpecN.mono (sp154 hΩ) hn fun _ _ _ q => q)
theorem mo_from {n : Nat} {a : Addr} {k : Nat} {sg : Bool} (K : Ki Ω a k sg) (hn : 1 ≤ n) : MethOk Ω n a (Str.ofString "from_bytearray") (gFrom Ω sg) := by
  cases sg with
  | true => exact (K.mi rfl).from_bytearray ((sp35 hΩ).mono hn)
  | false => exact (K.mu rfl).from_bytearray ((sp147 hΩ).mono hn)
theorem kinds_w {w : Nat} (h : w < 6) : ∃ a k sg, kinds[w]? = some (.tup [.ref a, .int (k : Nat), .bool sg]) ∧ Ki Ω a k sg ∧ (w % 2 = 1 → sg = false) := by
  match w, h with
  | 0, _ => exact ⟨_, 1, _, rfl, ki275 hΩ, fun q => by cases q⟩
  | 1, _ => exact ⟨_, 1, _, rfl, ki278 hΩ, fun _ => rfl⟩
  | 2, _ => exact ⟨_, 2, _, rfl, ki281 hΩ, fun q => by cases q⟩
  | 3, _ => exact ⟨_, 2, _, rfl, ki284 hΩ, fun _ => rfl⟩
  | 4, _ => exact ⟨_, 8, _, rfl, ki287 hΩ, fun q => by cases q⟩
  | 5, _ => exact ⟨_, 8, _, rfl, ki290 hΩ, fun _ => rfl⟩
set_option maxHeartbeats 1000000 in
theorem r2_ok {ρ : Rho} {K : Flw → Rho → Prop} {a : Addr} {k nm : Nat} {sg : Bool} {x y : Int} {hs : List Int} (h27 : ρ 27 = some (.val (.ref a))) (h21 : ρ 21 = some (.val (.str nm))) (h22 : ρ 22 = some (.val (.list (il (row x)))))
    (h23 : ρ 23 = some (.val (.list (il (row y))))) (h10 : ρ 10 = some (.val (.int (k : Nat)))) (h11 : ρ 11 = some (.val (.bool sg))) (h4 : ρ 4 = some (.val (.int x))) (h5 : ρ 5 = some (.val (.int y)))
    (h31 : ρ 31 = some (.own (il hs))) (h32 : ρ 32 = some (.own (rws hs))) (Kk : Ki Ω a k sg) (hnm : nm < 15) (hx7 : R71 x) (hx : nm ≠ 9 → InK k sg x) (hy : InK k sg y) (hsg : 10 ≤ nm → sg = false) (hl : hs.length ≤ 100)
    (kc : ∀ ρ', ρ' 31 = some (.own (il hs)) → ρ' 32 = some (.own (rws hs)) → K .cont ρ')
    (kn : ∀ v ρ', R71 v → ρ' 31 = some (.own (il (hs ++ [v]))) → ρ' 32 = some (.own (rws (hs ++ [v]))) → K .next ρ') : R2 Ω 5 g393 g324 (g386 Ω) g379 g331 g317 g312 g298 g305 ρ K (fun _ => False) := by
  have hk := Kk.io.kd
  have hk9 := kd_le hk
  unfold R2
  refine s_as (v := (res nm k sg x y).due) (fun K hK => ⟨_, h21, _, h22, _, h23, _, h10, _, h11, nm, x, y, k, sg, rfl, hnm, hk, hx7, hx, hy, hsg, hK⟩) ?_
  refine s_as (v := (res nm k sg x y).told) (fun K hK => ⟨_, h27, _, h21, _, h4, _, h5, a, nm, x, y, k, sg, rfl, Kk, hnm, hx, hy, hsg, hK⟩) ?_
  cases hr : res nm k sg x y with
  | no c =>
    have hc : [15, 16].contains c = true := by rcases res_no hr with rfl | rfl <;> rfl
    exact s_ifNC (fun K hK => ⟨_, rfl, sz_ok (by decide), .inl ⟨c, [15, 16], rfl, rfl, _, rfl, by rw [hc]; exact hK⟩⟩) (fun K hK => ⟨_, rfl, _, rfl, ne_ss ⟨_, rfl, by rw [show (c != c) = false by simp]; exact hK⟩⟩) (kc _ h31 h32)
  | ok v =>
    have hv := res_in hk hx hsg hy hr
    have hv7 := ink_r71 hk hv
    have hvv : (v != v) = false := by simp
    refine s_ifF (fun K hK => ⟨_, rfl, sz_ok (by decide), .inr ⟨il (row v), [15, 16], rfl, rfl, _, rfl, hK⟩⟩) ?_
    refine s_ifF (t_orF (fun K hK => ⟨_, rfl, _, rfl, v, rfl, hv7, ne_ii ⟨_, rfl, by rw [hvv]; exact hK⟩⟩) (fun K hK => ⟨_, rfl, v, rfl, _, rfl, hK⟩)) ?_
    refine s_as (v := .barr (octs v k)) (fun K hK => ⟨_, h27, a, _, rfl, mo_into hΩ Kk (by decide), _, rfl, a, k, v, rfl, Kk.io, hv, hK⟩) ?_
    refine s_ifF (t_orF (fun K hK => ⟨_, rfl, octs v k, rfl, Nat.le_trans (octs_le hk9) (by decide), _, rfl, _, h10, (k : Int), rfl, il (row v), rfl, row_sz, by
        rw [pick_take, show (row v).take k = octs v k from octs_take v (k_le9 hk9)]
        exact ne_ll ⟨_, rfl, by rw [show (!decide (octs v k = octs v k)) = false by simp]; exact hK⟩⟩) (fun K hK => ⟨_, h27, a, _, rfl, mo_from hΩ Kk (by decide), _, rfl, a, k, v, rfl, Kk.io, hv, _, rfl, ne_ii ⟨_, rfl, by rw [hvv]; exact hK⟩⟩)) ?_
    have l1 : (il hs).length ≤ 4096 := by rw [il_len]; exact Nat.le_trans hl (by decide)
    have l2 : (rws hs).length ≤ 4096 := by unfold rws; rw [List.length_map]; exact Nat.le_trans hl (by decide)
    refine s_app h31 l1 (fun K hK => ⟨_, rfl, hK⟩) (s_app (ds := rws hs) h32 l2 (fun K hK => ⟨_, rfl, hK⟩) (kn v _ hv7 ?_ ?_))
    · rw [il_app]; rfl
    · unfold rws; rw [List.map_append]; rfl
end
end Mine
end
section
open PySem PySem.W PyProof.Rows PySem.Calls
set_option Elab.async false
set_option linter.all false
set_option autoImplicit false
set_option maxRecDepth 100000
namespace Mine
theorem small_r71 (z : Int) : R71 (small z) := by
  have := small_range z
  unfold R71
  omega
theorem seq_m2 {n : Nat} : seqIndex? (-2) (n + 2) = some n := seq_back (by omega) (by omega)
theorem seq_m1 {n : Nat} : seqIndex? (-1) (n + 2) = some (n + 1) := seq_back (by omega) (by omega)
theorem own_at {pre : List Int} {h2 h1 : Int} : (il (pre ++ [h2, h1]))[pre.length]? = some (.int h2) ∧ (il (pre ++ [h2, h1]))[pre.length + 1]? = some (.int h1) ∧ (rws (pre ++ [h2, h1]))[pre.length + 1]? = some (.list (il (row h1))) := by
  refine ⟨il_at (by simp), il_at (by simp), ?_⟩
  unfold rws
  rw [List.getElem?_map]
  simp
theorem own_len {pre : List Int} {h2 h1 : Int} : (il (pre ++ [h2, h1])).length = pre.length + 2 ∧ (rws (pre ++ [h2, h1])).length = pre.length + 2 := by
  constructor
  · rw [il_len]; simp
  · unfold rws; simp
theorem names_at {m : Nat} (h : m < 15) : names[m]? = some (.str m) := by
  unfold names
  rw [List.getElem?_map, List.getElem?_range h]
  rfl
theorem mod_nat (x : Int) {n : Nat} (hn : 0 < n) : ∃ m : Nat, m < n ∧ x.fmod (n : Int) = m := by
  have h0 := Int.emod_nonneg x (Int.natCast_ne_zero.mpr (Nat.ne_of_gt hn))
  have h1 := Int.emod_lt_of_pos x (Int.natCast_pos.mpr hn)
  rw [fm_p _ (Int.natCast_nonneg n)]
  exact ⟨(x % (n : Int)).toNat, (Int.toNat_lt h0).mpr h1, (Int.toNat_of_nonneg h0).symm⟩
theorem in5 {m : Nat} (h : 10 ≤ m) (hm : m < 15) : [10, 11, 12, 13, 14].contains m = true := by
  have : m = 10 ∨ m = 11 ∨ m = 12 ∨ m = 13 ∨ m = 14 := by omega
  rcases this with rfl | rfl | rfl | rfl | rfl <;> rfl
theorem out5 {m : Nat} (h : m < 10) : [10, 11, 12, 13, 14].contains m = false := by
  simp [List.contains_cons]; omega
theorem half_eq {w : Nat} : (w : Int).fdiv 2 * 2 + 1 = ((w / 2 * 2 + 1 : Nat) : Int) := by rw [fd_p _ (by decide)]; omega
theorem half_ok {w : Nat} (h : w < 6) : IntMulOk ((w : Int).fdiv 2) 2 := by
  rw [fd_p _ (by decide)]
  exact mulOk (by omega) (by omega) (by decide) (by decide)
theorem half_lt {w : Nat} (h : w < 6) : w / 2 * 2 + 1 < 6 := by omega
theorem half_odd {w : Nat} : (w / 2 * 2 + 1) % 2 = 1 := by omega
theorem pick3 {h2 c : Int} {m : Nat} (hm : m < 3) (h : R71 h2) : ∃ o, [h2, small c, -1][m]? = some o ∧ R71 o := by
  match m, hm with
  | 0, _ => exact ⟨_, rfl, h⟩
  | 1, _ => exact ⟨_, rfl, small_r71 c⟩
  | 2, _ => exact ⟨_, rfl, by decide, by decide⟩
section
variable {Ω : Wd} (hΩ : Ω.K = K0 Ω.w.params)
include hΩ
set_option maxHeartbeats 1000000 in
theorem r1_ok {ρ : Rho} {K : Flw → Rho → Prop} {nm w i : Nat} {z h2 h1 : Int} {pre : List Int} (h21 : ρ 21 = some (.val (.str nm))) (h33 : ρ 33 = some (.val (.int (w : Nat)))) (h6 : ρ 6 = some (.val (.int z))) (h9 : ρ 9 = some (.val (.int (i : Nat))))
    (h31 : ρ 31 = some (.own (il (pre ++ [h2, h1])))) (h32 : ρ 32 = some (.own (rws (pre ++ [h2, h1])))) (hnm : nm < 15) (hw : w < 6) (hod : 10 ≤ nm → w % 2 = 1) (hr1 : R71 h1) (hr2 : R71 h2) (hl : pre.length ≤ 50)
    (kc : ∀ ρ', ρ' 31 = some (.own (il (pre ++ [h2, h1]))) → ρ' 32 = some (.own (rws (pre ++ [h2, h1]))) → K .cont ρ')
    (kn : ∀ v ρ', R71 v → ρ' 31 = some (.own (il ((pre ++ [h2, h1]) ++ [v]))) → ρ' 32 = some (.own (rws ((pre ++ [h2, h1]) ++ [v]))) → K .next ρ') : R1 Ω 5 g393 g324 (g386 Ω) g379 g331 g317 g312 g298 g305 ρ K (fun _ => False) := by
  obtain ⟨a, k, sg, hkw, Kk, hsw⟩ := kinds_w hΩ hw
  have hk := Kk.io.kd
  have hk9 := kd_le hk
  obtain ⟨a2, a1, b1⟩ := own_at (pre := pre) (h2 := h2) (h1 := h1)
  obtain ⟨l1, l2⟩ := own_len (pre := pre) (h2 := h2) (h1 := h1)
  have s2 : seqIndex? (-2) (il (pre ++ [h2, h1])).length = some pre.length := by rw [l1]; exact seq_m2
  have s1 : seqIndex? (-1) (il (pre ++ [h2, h1])).length = some (pre.length + 1) := by rw [l1]; exact seq_m1
  have t1 : seqIndex? (-1) (rws (pre ++ [h2, h1])).length = some (pre.length + 1) := by rw [l2]; exact seq_m1
  obtain ⟨m, hm, em⟩ : ∃ m : Nat, m < 3 ∧ (z.fdiv 90 + (i : Int)).fmod 3 = m := mod_nat _ (by decide)
  obtain ⟨o, ho, hor⟩ := pick3 (c := z.fdiv 15) hm hr2
  have w1 := wrap_in (sg := sg) hk h1
  have wo := wrap_in (sg := sg) hk o
  unfold R1
  refine s_tup (fun K hK => ⟨rfl, _, h33, idx_l w _ rfl hkw (by decide) hK⟩) rfl ?_
  refine s_as (v := .int o) (fun K hK => ⟨_, h31, 2, rfl, -2, _, _, rfl, by decide, by decide, s2, a2, _, h6, z, 15, rfl, rfl, by decide +kernel, fun q => absurd q (by decide), fun _ => ⟨_, rfl, 1, rfl, sz_ok (by show 3 ≤ 4096; decide), _, h6, z, 90, rfl, rfl, by decide +kernel, fun q => absurd q (by decide), fun _ => ⟨_, h9, _, _, rfl, rfl, _, _, rfl, rfl, fun q => absurd q (by decide), fun _ => idx_il m o em ho (by show 3 < 2 ^ 62; decide) hK⟩⟩⟩) ?_
  refine s_as (v := .list (il (row (wrapv k sg h1)))) (fun K hK => ⟨_, h32, 1, rfl, -1, _, _, rfl, by decide, by decide, t1, b1, _, rfl, _, rfl, row h1, h1, k, sg, rfl, hk, row_ge hk9, row_le, octs_take _ (k_le9 hk9), hK⟩) ?_
  refine s_as (v := .list (il (row (wrapv k sg o)))) (fun K hK => ⟨_, rfl, o, rfl, hor, _, rfl, _, rfl, row o, o, k, sg, rfl, hk, row_ge hk9, row_le, octs_take _ (k_le9 hk9), hK⟩) ?_
  refine s_as (v := .int (wrapv k sg h1)) (fun K hK => ⟨_, rfl, a, _, rfl, mo_fit hΩ Kk (by decide), _, h31, 1, rfl, -1, _, _, rfl, by decide, by decide, s1, a1, a, k, h1, rfl, Kk.io, hK⟩) ?_
  refine s_as (v := .int (wrapv k sg o)) (fun K hK => ⟨_, rfl, a, _, rfl, mo_fit hΩ Kk (by decide), _, rfl, a, k, o, rfl, Kk.io, hK⟩) ?_
  refine s_ifF (fun K hK => ⟨_, rfl, _, rfl, sz_ok (by show 2 ≤ 4096; decide), _, rfl, wrapv k sg h1, rfl, ink_r71 hk w1, _, rfl, wrapv k sg o, rfl, ink_r71 hk wo, sz_ok (by show 2 ≤ 4096; decide), _, _, _, _, rfl, rfl, _, rfl, by rw [show (!(decide (wrapv k sg h1 = wrapv k sg h1) && decide (wrapv k sg o = wrapv k sg o))) = false by simp]; exact hK⟩) ?_
  have hll : (pre ++ [h2, h1]).length ≤ 100 := by rw [List.length_append]; exact Nat.add_le_add_right (Nat.le_trans hl (by decide : 50 ≤ 98)) 2
  by_cases h9' : nm = 9
  · subst h9'
    refine s_ifAA (v := .int h1) (w := .list (il (row h1))) (t_str' h21 rfl) (fun K hK => ⟨_, h31, 1, rfl, -1, _, _, rfl, by decide, by decide, s1, a1, hK⟩) (fun K hK => ⟨_, h32, 1, rfl, -1, _, _, rfl, by decide, by decide, t1, b1, hK⟩) ?_
    exact r2_ok hΩ (a := a) (k := k) (nm := 9) (sg := sg) (x := h1) (y := wrapv k sg o) (hs := pre ++ [h2, h1]) rfl h21 rfl rfl rfl rfl rfl rfl h31 h32 Kk (by decide) hr1 (fun q => absurd rfl q) wo (fun q => absurd q (by decide)) hll kc kn
  · refine s_ifF (t_str' h21 (no_eq h9')) ?_
    exact r2_ok hΩ (a := a) (k := k) (nm := nm) (sg := sg) (x := wrapv k sg h1) (y := wrapv k sg o) (hs := pre ++ [h2, h1]) rfl h21 rfl rfl rfl rfl rfl rfl h31 h32 Kk hnm (ink_r71 hk w1) (fun _ => w1) wo (fun q => hsw (hod q)) hll kc kn
set_option maxHeartbeats 1000000 in
theorem b400_ok {ρ : Rho} {K : Flw → Rho → Prop} {i : Nat} {z h2 h1 : Int} {pre : List Int} (h6 : ρ 6 = some (.val (.int z))) (h9 : ρ 9 = some (.val (.int (i : Nat))))
    (h31 : ρ 31 = some (.own (il (pre ++ [h2, h1])))) (h32 : ρ 32 = some (.own (rws (pre ++ [h2, h1])))) (hr1 : R71 h1) (hr2 : R71 h2) (hl : pre.length ≤ 50)
    (kc : ∀ ρ', ρ' 31 = some (.own (il (pre ++ [h2, h1]))) → ρ' 32 = some (.own (rws (pre ++ [h2, h1]))) → K .cont ρ')
    (kn : ∀ v ρ', R71 v → ρ' 31 = some (.own (il ((pre ++ [h2, h1]) ++ [v]))) → ρ' 32 = some (.own (rws ((pre ++ [h2, h1]) ++ [v]))) → K .next ρ') : B400 Ω 5 g393 g324 (g386 Ω) g379 g331 g317 g312 g298 g305 ρ K (fun _ => False) := by
  rw [b400_eq]
  obtain ⟨m, hm, em⟩ : ∃ m : Nat, m < 15 ∧ z.fmod 15 = m := mod_nat _ (by decide)
  obtain ⟨w, hw, ew⟩ : ∃ w : Nat, w < 6 ∧ (z.fdiv 15 + (i : Int)).fmod 6 = w := mod_nat _ (by decide)
  refine s_as (v := .str m) (fun K hK => ⟨rfl, _, h6, z, 15, rfl, rfl, fun q => absurd q (by decide), fun _ => idx_l m _ em (names_at hm) (by decide) hK⟩) ?_
  refine s_as (v := .int (w : Int)) (fun K hK => ⟨_, h6, z, 15, rfl, rfl, by decide +kernel, fun q => absurd q (by decide), fun _ => ⟨_, h9, _, _, rfl, rfl, _, _, rfl, rfl, fun q => absurd q (by decide), fun _ => by rw [ew]; exact hK⟩⟩) ?_
  by_cases h10 : 10 ≤ m
  · refine s_ifA (v := .int ((w / 2 * 2 + 1 : Nat) : Int)) (fun K hK => ⟨_, rfl, sz_ok (by decide), m, [10, 11, 12, 13, 14], rfl, rfl, _, rfl, by rw [in5 h10 hm]; exact hK⟩) (fun K hK => ⟨_, rfl, _, _, rfl, rfl, by decide +kernel, fun q => absurd q (by decide), fun _ => ⟨_, _, rfl, rfl, half_ok hw, _, _, rfl, rfl, by rw [half_eq]; exact hK⟩⟩) ?_
    exact r1_ok hΩ (nm := m) (w := w / 2 * 2 + 1) (i := i) (z := z) (h2 := h2) (h1 := h1) (pre := pre) rfl rfl h6 h9 h31 h32 hm (half_lt hw) (fun _ => half_odd) hr1 hr2 hl kc kn
  · refine s_ifF (fun K hK => ⟨_, rfl, sz_ok (by decide), m, [10, 11, 12, 13, 14], rfl, rfl, _, rfl, by rw [out5 (Nat.not_le.mp h10)]; exact hK⟩) ?_
    exact r1_ok hΩ (nm := m) (w := w) (i := i) (z := z) (h2 := h2) (h1 := h1) (pre := pre) rfl rfl h6 h9 h31 h32 hm hw (fun q => absurd q h10) hr1 hr2 hl kc kn
end
end Mine
end
section
open PySem PySem.W PyProof.Rows PySem.Calls
set_option Elab.async false
set_option linter.all false
set_option autoImplicit false
set_option maxRecDepth 100000
namespace Mine
theorem own_one {ρ : Rho} {k : Nat} {is : List Nat} {d : D} (h : ∀ j es, ρ j = some (.own es) → j ∈ is) : ∀ j es, upd ρ k (.val d) j = some (.own es) → j ∈ is := fun j es q => by
  unfold upd at q
  split at q
  · cases q
  · exact h j es q
theorem own_two {ρ : Rho} {k : Nat} {is : List Nat} {ds : List D} (hk : k ∈ is) (h : ∀ j es, ρ j = some (.own es) → j ∈ is) : ∀ j es, upd ρ k (.own ds) j = some (.own es) → j ∈ is := fun j es q => by
  unfold upd at q
  split at q
  · rename_i e; exact e ▸ hk
  · exact h j es q
theorem own_none {is : List Nat} : ∀ j es, rho0 j = some (.own es) → j ∈ is := fun j es q => by cases q
noncomputable def nums (ns : List Int) : List Int := ns.take 12 ++ [300, -7, 5].drop ns.length
theorem nums_len (ns : List Int) : 3 ≤ (nums ns).length ∧ (nums ns).length ≤ 15 := by
  unfold nums
  rw [List.length_append, List.length_take, List.length_drop]
  show 3 ≤ min 12 ns.length + (3 - ns.length) ∧ _ ≤ 15
  constructor
  · omega
  · show min 12 ns.length + (3 - ns.length) ≤ 15; omega
theorem len_pre {p i n : Nat} (h : p ≤ i) (hi : i < n - 2) (hn : n ≤ 15) : p ≤ 50 :=
  Nat.le_trans h (Nat.le_trans (Nat.le_of_lt hi) (Nat.le_trans (Nat.sub_le _ _) (Nat.le_trans hn (by decide))))
theorem il_int {ns : List Int} {i : Nat} {d : D} (h : (il ns)[i]? = some d) : ∃ z, d = .int z := by
  unfold il at h
  rw [List.getElem?_map] at h
  cases q : ns[i]? with
  | none => rw [q] at h; cases h
  | some z => rw [q] at h; cases h; exact ⟨z, rfl⟩
theorem app3 {pre : List Int} {a b c : Int} : (pre ++ [a]) ++ [b, c] = (pre ++ [a, b]) ++ [c] := by rw [List.append_assoc, List.append_assoc]; rfl
section
variable {Ω : Wd} (hΩ : Ω.K = K0 Ω.w.params)
include hΩ
set_option maxHeartbeats 1000000 in
theorem law_ok {ns : List Int} (hn : ns.length ≤ 4000) : fSpec [29] (T400 Ω 5 g393 g324 (g386 Ω) g379 g331 g317 g312 g298 g305) [.list (il ns)] (fun d => d = .bool true) (fun _ => False) := by
  refine ⟨rfl, ?_⟩
  simp only [T400, sCons, sRet, sNil, sAssign, sOwn]
  obtain ⟨hl3, hl15⟩ := nums_len ns
  have e12 : pickD (il ns) none (some 12) = il (ns.take 12) := pick_take (k := 12)
  have ed : pickD [.int 300, .int (-7), .int 5] (some ((il ns).length : Int)) none = il ([300, -7, 5].drop ns.length) := by rw [il_len]; exact pick_drop (ns := [300, -7, 5]) (k := ns.length)
  refine ⟨_, rfl, 12, rfl, il ns, rfl, sz_ok (by rw [il_len]; exact Nat.le_trans hn (by decide)), ?_⟩
  rw [e12]
  refine ⟨7, rfl, sz_ok (by show 3 ≤ 4096; decide), _, rfl, il ns, rfl, by rw [il_len]; exact Nat.lt_of_le_of_lt hn (by decide), _, rfl, _, rfl, sz_ok (by show 3 ≤ 4096; decide), ?_⟩
  rw [ed]
  refine addL_il (by have := hl15; unfold nums at this; rw [List.length_append] at this; exact Nat.le_trans this (by decide)) ?_
  generalize hN : nums ns = N at hl3 hl15
  have hN' : List.take 12 ns ++ List.drop ns.length [300, -7, 5] = N := hN
  rw [hN']
  have p0 : 0 < N.length := Nat.lt_of_lt_of_le (by decide) hl3
  have p1 : 1 < N.length := Nat.lt_of_lt_of_le (by decide) hl3
  have g0 : N[0]? = some N[0] := List.getElem?_eq_getElem p0
  have g1 : N[1]? = some N[1] := List.getElem?_eq_getElem p1
  have l62 : N.length < 2 ^ 62 := Nat.lt_of_le_of_lt hl15 (by decide)
  have o1 : ∀ (j : Nat) (es : List D), upd (bindR [29] [D.list (il ns)]) 30 (Sl.val (D.list (il N))) j = some (Sl.own es) → j ∈ [31, 32] := own_one (own_one own_none)
  have q0 : R71 (small N[0]) := small_r71 _
  have q1 : R71 (small N[1]) := small_r71 _
  refine ⟨o1, _, rfl, idx_il (E := fun _ => False) 0 _ rfl g0 l62 ⟨_, rfl, _, rfl, idx_il (E := fun _ => False) 1 _ rfl g1 l62 ⟨_, rfl, by show 2 ≤ 4096; decide, own_two (by decide) o1, ?_⟩⟩⟩
  refine ⟨_, rfl, 0, 0, _, rfl, by decide, by decide, rfl, rfl, _, rfl, q0, _, rfl, 1, 1, _, rfl, by decide, by decide, rfl, rfl, _, rfl, q1, by show 2 ≤ 4096; decide, ?_⟩
  have ek : pickD (il N) (some 2) none = il (N.drop 2) := pick_drop (k := 2)
  refine ⟨_, rfl, 2, rfl, il N, rfl, sz_ok (by rw [il_len]; exact Nat.le_trans hl15 (by decide)), _, rfl, ?_⟩
  rw [ek]
  have hlen : (il (N.drop 2)).length = N.length - 2 := by rw [il_len, List.length_drop]
  refine loopT_list (il (N.drop 2)) (fun i ρ => ∃ pre h2 h1, ρ 31 = some (.own (il (pre ++ [h2, h1]))) ∧ ρ 32 = some (.own (rws (pre ++ [h2, h1]))) ∧ R71 h1 ∧ R71 h2 ∧ pre.length ≤ i) (fun i d ρ hd ⟨pre, h2, h1, h31, h32, hr1, hr2, hl⟩ K k1 k2 k3 k4 => ?_) (fun ρ ⟨pre, h2, h1, h31, h32, hr1, hr2, hl⟩ => ?_) (N.length - 2) 0 _ (by rw [hlen, Nat.zero_add]) ⟨[], small N[0], small N[1], rfl, rfl, q1, q0, Nat.le_refl _⟩
  · have hi := (List.getElem?_eq_some_iff.mp hd).1
    rw [hlen] at hi
    obtain ⟨z, rfl⟩ := il_int hd
    exact b400_ok hΩ (i := i) (z := z) (h2 := h2) (h1 := h1) (pre := pre) rfl rfl h31 h32 hr1 hr2 (len_pre hl hi hl15) (fun ρ' a b => k2 ρ' ⟨pre, h2, h1, a, b, hr1, hr2, Nat.le_succ_of_le hl⟩)
      (fun v ρ' hv a b => k1 ρ' ⟨pre ++ [h2], h1, v, by rw [app3]; exact a, by rw [app3]; exact b, hv, hr1, app_len hl⟩)
  · obtain ⟨a2, a1, b1⟩ := own_at (pre := pre) (h2 := h2) (h1 := h1)
    obtain ⟨l1, l2⟩ := own_len (pre := pre) (h2 := h2) (h1 := h1)
    have s1 : seqIndex? (-1) (il (pre ++ [h2, h1])).length = some (pre.length + 1) := by rw [l1]; exact seq_m1
    exact ⟨_, h31, 1, rfl, -1, _, _, rfl, by decide, by decide, s1, a1, h1, rfl, _, rfl, rfl⟩
end
end Mine
end
section
open PySem PySem.W PyProof.Rows PySem.Calls
set_option Elab.async false
set_option linter.all false
set_option autoImplicit false
set_option maxRecDepth 100000
namespace Mine
theorem reps_of {R : WRecords} {cl : Str → Option Addr} {h : Heap} : ∀ {xs : List WData} {vs : List Value} {as : List Addr}, WShape.hasItems R xs .int = true → ReadsAllW R cl h vs xs as → ∃ ns : List Int, ns.length = xs.length ∧ Reps (fun _ => False) h (il ns) vs
  | [], vs, as, _, r => by
    obtain ⟨rfl, _⟩ := readsAllW_nil_inv r
    exact ⟨[], rfl, by show Reps _ _ [] _; unfold Reps; rfl⟩
  | x :: xs, vs, as, hh, r => by
    obtain ⟨v, vs', a1, a2, rfl, rfl, r1, r2⟩ := readsAllW_cons_inv r
    simp only [WShape.hasItems, Bool.and_eq_true] at hh
    obtain ⟨i, rfl⟩ := hasW_int hh.1
    obtain ⟨t, rfl, _⟩ := readsW_int_inv r1
    obtain ⟨ns, hl, hr⟩ := reps_of hh.2 r2
    refine ⟨i :: ns, by rw [List.length_cons, List.length_cons, hl], ?_⟩
    show Reps _ _ (.int i :: il ns) _
    unfold Reps
    exact ⟨_, _, rfl, by unfold Rep; exact ⟨t, rfl⟩, hr⟩
theorem script_of {r : RowW} (hargs : r.args = [.list .int]) {args : List WData} {vals : List Value} {as : List Addr} {cl : Str → Option Addr} {h : Heap} (hsh : WShape.hasAll r.records args r.args = true) (hrd : ReadsAllW r.records cl h vals args as) :
    ∃ (ns : List Int) (xs : List WData), args = [.list xs] ∧ ns.length = xs.length ∧ Reps (fun _ => False) h [.list (il ns)] vals := by
  rw [hargs] at hsh
  obtain ⟨d, ds, rfl, h1, h2⟩ := hasAllW_cons hsh
  obtain rfl := hasAllW_nil h2
  obtain ⟨xs, rfl, h3⟩ := hasW_list h1
  obtain ⟨v, vs, a1, a2, rfl, rfl, r1, r2⟩ := readsAllW_cons_inv hrd
  obtain ⟨rfl, _⟩ := readsAllW_nil_inv r2
  obtain ⟨ad, av, as', rfl, hL, r3, _⟩ := readsW_list_inv r1
  obtain ⟨ns, hl, hr⟩ := reps_of h3 r3
  refine ⟨ns, xs, rfl, hl, ?_⟩
  unfold Reps
  refine ⟨_, [], rfl, ?_, by unfold Reps; rfl⟩
  unfold Rep
  exact ⟨ad, av.toList, rfl, by simpa using hL, fun q => q, hr⟩
theorem most_of {R : WRecords} {n : Nat} {t : WTm} {xs : List WData} (h : (WTm.and (.not (.lt (.lit (.int n)) (.len (.arg 0)))) t).holds R { args := [.list xs] } = true) : xs.length ≤ n := by
  have h1 := (holds_andW h).1
  rcases Nat.lt_or_ge n xs.length with q | q
  · exfalso
    unfold WTm.holds at h1
    have e : less? (.int n) (.int xs.length) = some true := by
      show some (decide ((n : Int) < (xs.length : Int))) = some true
      rw [decide_eq_true (by omega)]
    simp [WTm.value, e] at h1
  · exact q
set_option maxHeartbeats 4000000 in
theorem walkK (q : Program) (loose : List Str) (XP : (Str → Option Value) → Heap → Prop) (d : DefRec) (kwd : List (Str × PySem.Expr)) (hdn : d.name = Str.ofString "law") : WalkON q loose XP (kHook K0 A0 a0_eq).says PySem.Challenge.rw_im0070_01.row.toRowW d kwd := by
  intro w s₀ s₁ mg mb G Y a o pm cd doc dV kV ho hod hcd hD hmg hg args vals as hpre hlay hrd hwl hlo
  have KX := kIn_of Y
  clear hod hcd hD ho Y
  refine Ground.open G ?_
  intro T _ _ _ _
  clear G
  have hsh := (pre_splitW hpre).1
  have hcond := (pre_splitW hpre).2
  have hm : mg (Str.ofString "law") = some (.ref a) := hdn ▸ hmg
  clear hmg
  have ha := mg_of KX T.g (n := Str.ofString "law") (v := .ref 400) (by rfl)
  rw [hm] at ha
  cases ha
  obtain ⟨ns, xs, rfl, hl, rv⟩ := script_of rfl hsh hrd
  have hmost := most_of hcond
  let Ω : Wd := ⟨PySem.Challenge.rw_im0070_01.row.toRowW.prog, w, _, _, _, _, mg, mb, s₁.heap, KX, T⟩
  have C := top_call (Ω := Ω) (n := 5) (s := s₁) (fk400 (Ω := Ω) rfl) (fun L o O => (dv400 (Ω := Ω) rfl ((sp393 (Ω := Ω) rfl).mono (by decide)).h ((sp324 (Ω := Ω) rfl).mono (by decide)).h ((sp386 (Ω := Ω) rfl).mono (by decide)).h (sp379 (Ω := Ω) rfl).h ((sp331 (Ω := Ω) rfl).mono (by decide)).h ((sp317 (Ω := Ω) rfl).mono (by decide)).h
    ((sp312 (Ω := Ω) rfl).mono (by decide)).h ((sp298 (Ω := Ω) rfl).mono (by decide)).h ((sp305 (Ω := Ω) rfl).mono (by decide)).h L o O).h) rfl rv (by decide) (law_ok (Ω := Ω) rfl (by omega))
  refine wpN_mono C fun v s' p => ?_
  obtain ⟨d, h, tk, rfl, keep, r, rfl⟩ := p
  unfold Rep at r
  subst r
  exact ⟨.inl ⟨_, .bool true, [], rfl, fun _ => rfl, .bool true, by wrow_post, fun _ => ⟨List.nodup_nil, fun a ha => by cases ha⟩⟩, .of_keep keep, rfl, .of_eq hg⟩
end Mine
end
section
open PySem PySem.W PyProof.Rows PySem.Calls
set_option linter.all false
set_option maxRecDepth 100000
namespace Mine
noncomputable def fin.tw10699407837109476802 : Unit := ()
noncomputable def fin.tw17717364068325071970 : Unit := ()
noncomputable def fin.tw12595923617535045753 : Unit := ()
noncomputable def fin.tw17628183408451194143 : Unit := ()
noncomputable def fin.tw14728723275428758510 : Unit := ()
noncomputable def fin.tw14578271805448956485 : Unit := ()
noncomputable def fin.tw14853689601478235412 : Unit := ()
noncomputable def fin.tw12669758225909598566 : Unit := ()
noncomputable def fin.tw15815952407149668801 : Unit := ()
noncomputable def fin.tw13898374239775968522 : Unit := ()
noncomputable def fin.tw2976117146107443816 : Unit := ()
noncomputable def fin.tw17411212529522378858 : Unit := ()
noncomputable def fin.tw3974152918291533672 : Unit := ()
noncomputable def fin.tw7716820226725407877 : Unit := ()
noncomputable def fin.tw10751089155417173751 : Unit := ()
noncomputable def fin.tw17164383140453370395 : Unit := ()
noncomputable def fin.tw5266742908149448401 : Unit := ()
noncomputable def fin.tw15688172546075569117 : Unit := ()
noncomputable def fin.tw18387650150990424433 : Unit := ()
noncomputable def fin.tw6127190174262240918 : Unit := ()
noncomputable def fin.tw6515953530934532768 : Unit := ()
noncomputable def fin.tw9059937348426287209 : Unit := ()
noncomputable def fin.tw9962418760945406050 : Unit := ()
noncomputable def fin.tw7976502392129159676 : Unit := ()
noncomputable def fin.tw6232080684201472732 : Unit := ()
noncomputable def fin.tw3810570522144960214 : Unit := ()
noncomputable def fin.tw5227809002895711924 : Unit := ()
noncomputable def fin.tw11151619158091525091 : Unit := ()
noncomputable def fin.tw7613857476909055813 : Unit := ()
noncomputable def fin.tw480829909506669009 : Unit := ()
noncomputable def fin.tw11615019562542576733 : Unit := ()
noncomputable def fin.tw15225332579556243176 : Unit := ()
noncomputable def fin.tw1128348596072947701 : Unit := ()
noncomputable def fin.tw9806666330580929782 : Unit := ()
noncomputable def fin.tw7031824236724244438 : Unit := ()
noncomputable def fin.tw8018989035897545986 : Unit := ()
noncomputable def fin.tw5486226609284752418 : Unit := ()
noncomputable def fin.tw17311274769643918242 : Unit := ()
noncomputable def fin.tw17416127249078093707 : Unit := ()
noncomputable def fin.tw2565351972500760935 : Unit := ()
noncomputable def fin.tw18295790063311454060 : Unit := ()
noncomputable def fin.tw6712194924023145494 : Unit := ()
noncomputable def fin.tw14166196953294261902 : Unit := ()
noncomputable def fin.tw1249118550022496774 : Unit := ()
noncomputable def fin.tw2051409578822353534 : Unit := ()
noncomputable def fin.tw9221430085559818832 : Unit := ()
noncomputable def fin.tw9597861255099599992 : Unit := ()
noncomputable def fin.tw12284014389350100970 : Unit := ()
noncomputable def fin.tw11039862389202566683 : Unit := ()
noncomputable def fin.tw11040825799340251285 : Unit := ()
noncomputable def fin.tw5250828734511838712 : Unit := ()
noncomputable def fin.tw5102460946473063141 : Unit := ()
noncomputable def fin.tw6766580051018981234 : Unit := ()
noncomputable def fin.tw4868334931027891882 : Unit := ()
noncomputable def fin.tw17861066769153400444 : Unit := ()
noncomputable def fin.tw8590288500278120515 : Unit := ()
noncomputable def fin.tw7249652514872940865 : Unit := ()
noncomputable def fin.tw16307707646766795581 : Unit := ()
noncomputable def fin.tw6766378078585498003 : Unit := ()
noncomputable def fin.tw13162651487661262736 : Unit := ()
noncomputable def fin.tw10936777179133785780 : Unit := ()
noncomputable def fin.tw7830602891274557492 : Unit := ()
noncomputable def fin.tw3432132637015033673 : Unit := ()
noncomputable def fin.tw2512408688544751470 : Unit := ()
noncomputable def fin.tw16252508478716706905 : Unit := ()
noncomputable def fin.tw11932844563623469519 : Unit := ()
noncomputable def fin.tw8577089030196625639 : Unit := ()
noncomputable def fin.tw12629903358213643309 : Unit := ()
noncomputable def fin.tw4898026214463823928 : Unit := ()
noncomputable def fin.tw5196160543931855155 : Unit := ()
noncomputable def fin.tw11293339424137598113 : Unit := ()
noncomputable def fin.tw5106123347721008290 : Unit := ()
noncomputable def fin.tw2617349483901765261 : Unit := ()
noncomputable def fin.tw7779959011674639804 : Unit := ()
noncomputable def fin.tw4769821431679368130 : Unit := ()
noncomputable def fin.tw7661832156752021035 : Unit := ()
noncomputable def fin.tw4100293265295638779 : Unit := ()
noncomputable def fin.tw15069271281064182630 : Unit := ()
noncomputable def fin.tw8656503046869711584 : Unit := ()
noncomputable def fin.tw12221555665107904926 : Unit := ()
noncomputable def fin.tw16285329926789087883 : Unit := ()
noncomputable def fin.tw16867096813858660809 : Unit := ()
noncomputable def fin.tw5098551885099359569 : Unit := ()
noncomputable def fin.tw783483362715066742 : Unit := ()
noncomputable def fin.tw8999559765510592377 : Unit := ()
noncomputable def fin.tw3975253019698251321 : Unit := ()
noncomputable def fin.tw2367325634123391141 : Unit := ()
noncomputable def fin.tw16570786720924097770 : Unit := ()
noncomputable def fin.tw2086631506510373192 : Unit := ()
noncomputable def fin.tw12448240930570709186 : Unit := ()
noncomputable def fin.tw10907391636593693970 : Unit := ()
noncomputable def fin.tw17784850919643140607 : Unit := ()
noncomputable def fin.tw12557769604369416430 : Unit := ()
noncomputable def fin.tw16906536467411238026 : Unit := ()
noncomputable def fin.tw2866121171748074186 : Unit := ()
noncomputable def fin.tw13700621096757390547 : Unit := ()
noncomputable def fin.tw4171678462856256454 : Unit := ()
noncomputable def fin.tw9001875181463519149 : Unit := ()
noncomputable def fin.tw11209750170652599755 : Unit := ()
noncomputable def fin.tw16935703041343069523 : Unit := ()
noncomputable def fin.tw10147658903529517814 : Unit := ()
noncomputable def fin.tw888132650186811988 : Unit := ()
noncomputable def fin.tw2896703901015224195 : Unit := ()
noncomputable def fin.tw10580198807604790814 : Unit := ()
noncomputable def fin.tw16103849850496634939 : Unit := ()
noncomputable def fin.tw7786677914034681988 : Unit := ()
noncomputable def fin.tw5678346346211369953 : Unit := ()
noncomputable def fin.tw4448525072470763060 : Unit := ()
noncomputable def fin.tw4218790737952374519 : Unit := ()
noncomputable def fin.tw803859442106103436 : Unit := ()
noncomputable def fin.tw10891054232620793217 : Unit := ()
noncomputable def fin.tw15841300982521233304 : Unit := ()
noncomputable def fin.tw13574545013463194659 : Unit := ()
noncomputable def fin.tw12135189313929291683 : Unit := ()
noncomputable def fin.tw12356021495744459628 : Unit := ()
noncomputable def fin.tw17449020081951674710 : Unit := ()
noncomputable def fin.tw1982079694162106894 : Unit := ()
noncomputable def fin.tw15989303212955285315 : Unit := ()
noncomputable def fin.tw884059145510264010 : Unit := ()
noncomputable def fin.tw4613182775407389354 : Unit := ()
noncomputable def fin.tw17362494058136835672 : Unit := ()
noncomputable def fin.tw3302319216010004292 : Unit := ()
noncomputable def fin.tw5679570950571409650 : Unit := ()
noncomputable def fin.tw13790858721211988464 : Unit := ()
noncomputable def fin.tw14574801432027512755 : Unit := ()
noncomputable def fin.tw16407147864228438881 : Unit := ()
noncomputable def fin.tw2910385600587045654 : Unit := ()
noncomputable def fin.tw2090205506522743130 : Unit := ()
noncomputable def fin.tw15741700470354863883 : Unit := ()
noncomputable def fin.tw4768634762848416435 : Unit := ()
noncomputable def fin.tw12291753297600562012 : Unit := ()
noncomputable def fin.tw891787732878383699 : Unit := ()
noncomputable def fin.tw15566928917628492161 : Unit := ()
noncomputable def fin.tw5796354222422608987 : Unit := ()
noncomputable def fin.tw17963964198891936676 : Unit := ()
noncomputable def fin.tw3456623496861543869 : Unit := ()
noncomputable def fin.tw5293390819737331289 : Unit := ()
noncomputable def fin.tw999798209818781672 : Unit := ()
noncomputable def fin.tw4725460767093446600 : Unit := ()
noncomputable def fin.tw6968583824967984638 : Unit := ()
noncomputable def fin.tw11607805686811502034 : Unit := ()
noncomputable def fin.tw13093503161671486093 : Unit := ()
noncomputable def fin.tw17570709534508481193 : Unit := ()
noncomputable def fin.tw1535588207084551279 : Unit := ()
noncomputable def fin.tw3683778510129048087 : Unit := ()
noncomputable def fin.tw5071919506433949198 : Unit := ()
noncomputable def fin.tw13021059552284102479 : Unit := ()
noncomputable def fin.tw10895054467252067526 : Unit := ()
noncomputable def fin.tw1252854909445205041 : Unit := ()
noncomputable def fin.tw373065315874586923 : Unit := ()
noncomputable def fin.tw13360279666012451719 : Unit := ()
noncomputable def fin.tw3029852977388229646 : Unit := ()
noncomputable def fin.tw7470013935711676318 : Unit := ()
noncomputable def fin.tw6435670951450185984 : Unit := ()
noncomputable def fin.tw1202912048536075021 : Unit := ()
noncomputable def fin.tw16530489862217454893 : Unit := ()
noncomputable def fin.tw15533503492667675913 : Unit := ()
noncomputable def fin.tw111200028466390044 : Unit := ()
noncomputable def fin.tw12550770813317053977 : Unit := ()
noncomputable def fin.tw9509447333196811905 : Unit := ()
noncomputable def fin.tw895571856199123645 : Unit := ()
noncomputable def fin.tw5734618986648460908 : Unit := ()
noncomputable def fin.tw4329306826757983850 : Unit := ()
noncomputable def fin.tw17974384156558142227 : Unit := ()
noncomputable def fin.tw3767311804947220896 : Unit := ()
noncomputable def fin.tw6707113841082798463 : Unit := ()
noncomputable def fin.tw1887099378405440850 : Unit := ()
noncomputable def fin.tw4144819383078699286 : Unit := ()
noncomputable def fin.tw11575174756993882273 : Unit := ()
noncomputable def fin.tw15564276425815640635 : Unit := ()
noncomputable def fin.tw9387745189664136937 : Unit := ()
noncomputable def fin.tw10279692637995926009 : Unit := ()
noncomputable def fin.tw8025084765662995669 : Unit := ()
noncomputable def fin.tw10098057777631523497 : Unit := ()
noncomputable def fin.tw15942684835789789487 : Unit := ()
noncomputable def fin.tw2775396313129547428 : Unit := ()
noncomputable def fin.tw17971676594858020690 : Unit := ()
noncomputable def fin.tw8331973007464152698 : Unit := ()
noncomputable def fin.tw18230178534529381785 : Unit := ()
noncomputable def fin.tw17108682257543074861 : Unit := ()
noncomputable def fin.tw876206183137641144 : Unit := ()
noncomputable def fin.tw9997704412844104603 : Unit := ()
noncomputable def fin.tw17637551073024348614 : Unit := ()
noncomputable def fin.tw12946824338688289833 : Unit := ()
noncomputable def fin.tw13724452099449386491 : Unit := ()
noncomputable def fin.tw17869975865946814897 : Unit := ()
noncomputable def fin.tw12212933522069011988 : Unit := ()
noncomputable def fin.tw3998398428148030388 : Unit := ()
noncomputable def fin.tw17512474026176034454 : Unit := ()
noncomputable def fin.tw251868834278440796 : Unit := ()
noncomputable def fin.tw11414674201277728305 : Unit := ()
noncomputable def fin.tw807531904560671035 : Unit := ()
noncomputable def fin.tw5346855491437873869 : Unit := ()
noncomputable def fin.tw4443050520305737185 : Unit := ()
noncomputable def fin.tw17260493314774615805 : Unit := ()
noncomputable def fin.tw10242451874928486539 : Unit := ()
noncomputable def fin.tw2305881189932309285 : Unit := ()
noncomputable def fin.tw7522001649326652513 : Unit := ()
noncomputable def fin.tw4598667867955821814 : Unit := ()
noncomputable def fin.tw8383268338085895543 : Unit := ()
noncomputable def fin.tw9073980366463248952 : Unit := ()
noncomputable def fin.tw6567050819087999508 : Unit := ()
noncomputable def fin.tw7130589087949165531 : Unit := ()
noncomputable def fin.tw12355744275394475900 : Unit := ()
noncomputable def fin.tw13337293482115323266 : Unit := ()
noncomputable def fin.tw17933470926392208243 : Unit := ()
noncomputable def fin.tw16196181902256332553 : Unit := ()
noncomputable def fin.tw3343445320678177929 : Unit := ()
noncomputable def fin.tw3222278782482380304 : Unit := ()
noncomputable def fin.tw757079261281740938 : Unit := ()
noncomputable def fin.tw12996517811204074000 : Unit := ()
noncomputable def fin.tw3028926083550364057 : Unit := ()
noncomputable def fin.tw11192643925408225281 : Unit := ()
noncomputable def fin.tw2608567993692976607 : Unit := ()
noncomputable def fin.tw17662344363894024548 : Unit := ()
noncomputable def fin.tw8668149382578428375 : Unit := ()
noncomputable def fin.tw9725021084223525626 : Unit := ()
noncomputable def fin.tw5402249366112354979 : Unit := ()
noncomputable def fin.tw9524518906428321964 : Unit := ()
noncomputable def fin.tw1209720653154232198 : Unit := ()
noncomputable def fin.tw14111491100615862519 : Unit := ()
noncomputable def fin.tw11147117730913898307 : Unit := ()
noncomputable def fin.tw1635022588487117616 : Unit := ()
noncomputable def fin.tw9610726530385051774 : Unit := ()
noncomputable def fin.tw16269368082590959529 : Unit := ()
noncomputable def fin.tw11154830654865731599 : Unit := ()
noncomputable def fin.tw4209717502836232480 : Unit := ()
noncomputable def fin.tw4719063310657182621 : Unit := ()
noncomputable def fin.tw12833947400113492166 : Unit := ()
noncomputable def fin.tw4395496475954998127 : Unit := ()
noncomputable def fin.tw17067295170570645592 : Unit := ()
noncomputable def fin.tw500868675978126160 : Unit := ()
noncomputable def fin.tw12829507556594621215 : Unit := ()
noncomputable def fin.tw16205109500356779066 : Unit := ()
noncomputable def fin.tw12105171945263650130 : Unit := ()
noncomputable def fin.tw1422313219903470601 : Unit := ()
noncomputable def fin.tw15476544859757588837 : Unit := ()
noncomputable def fin.tw12409915417874342407 : Unit := ()
noncomputable def fin.tw6388184931127306564 : Unit := ()
noncomputable def fin.tw13326868189938593150 : Unit := ()
noncomputable def fin.tw7930893340574950883 : Unit := ()
noncomputable def fin.tw15344004072050561172 : Unit := ()
noncomputable def fin.tw3550807849831375056 : Unit := ()
noncomputable def fin.tw17698704350827878285 : Unit := ()
noncomputable def fin.tw7468727024169554154 : Unit := ()
noncomputable def fin.tw4950403968356008110 : Unit := ()
noncomputable def fin.tw848606289541702500 : Unit := ()
noncomputable def fin.tw10265358394273191937 : Unit := ()
noncomputable def fin.tw17430205856086898164 : Unit := ()
noncomputable def fin.tw14517287926952318261 : Unit := ()
noncomputable def fin.tw8261031787919469916 : Unit := ()
noncomputable def fin.tw670465573061467203 : Unit := ()
noncomputable def fin.tw5555312102172926907 : Unit := ()
noncomputable def fin.tw16175276709679454751 : Unit := ()
noncomputable def fin.tw3263211703599914710 : Unit := ()
noncomputable def fin.tw12876116671307685997 : Unit := ()
noncomputable def fin.tw16115155874713506467 : Unit := ()
noncomputable def fin.tw6525817661751114472 : Unit := ()
noncomputable def fin.tw1963134401048803436 : Unit := ()
noncomputable def fin.tw3268265519342814607 : Unit := ()
noncomputable def fin.tw1014637456484912126 : Unit := ()
noncomputable def fin.tw6485783843944922600 : Unit := ()
noncomputable def fin.tw4806268862455609328 : Unit := ()
noncomputable def fin.tw1819255440876223710 : Unit := ()
noncomputable def fin.tw16510490156224867327 : Unit := ()
noncomputable def fin.tw4788878847521262168 : Unit := ()
noncomputable def fin.tw15309079848183770524 : Unit := ()
noncomputable def fin.tw12180539936304867106 : Unit := ()
noncomputable def fin.tw13158425560686309300 : Unit := ()
noncomputable def fin.tw15373703851562958014 : Unit := ()
noncomputable def fin.tw7995362448368537469 : Unit := ()
noncomputable def fin.tw10329872625359487480 : Unit := ()
noncomputable def fin.tw4180101509539245183 : Unit := ()
noncomputable def fin.tw3199103547748192838 : Unit := ()
noncomputable def fin.tw14431720936831517352 : Unit := ()
noncomputable def fin.tw16889484823980962733 : Unit := ()
noncomputable def fin.tw6449190631224713292 : Unit := ()
noncomputable def fin.tw9712136527352899355 : Unit := ()
noncomputable def fin.tw2462912638960843985 : Unit := ()
noncomputable def fin.tw1666694428299288667 : Unit := ()
noncomputable def fin.tw8408514402456403777 : Unit := ()
noncomputable def fin.tw744865244796547220 : Unit := ()
noncomputable def fin.tw6531376189190222733 : Unit := ()
noncomputable def fin.tw5073790198343104882 : Unit := ()
noncomputable def fin.tw6815667921103612162 : Unit := ()
noncomputable def fin.tw1105837973531982728 : Unit := ()
noncomputable def fin.tw18195182924450695511 : Unit := ()
noncomputable def fin.tw7684487725183542926 : Unit := ()
noncomputable def fin.tw3112429581023547943 : Unit := ()
noncomputable def fin.tw8288733244629462318 : Unit := ()
noncomputable def fin.tw7890596953891613788 : Unit := ()
noncomputable def fin.tw452842511749404161 : Unit := ()
noncomputable def fin.tw11273041486466551846 : Unit := ()
noncomputable def fin.tw3004984022683251337 : Unit := ()
noncomputable def fin.tw12347537446847802165 : Unit := ()
noncomputable def fin.tw5901363791540438844 : Unit := ()
noncomputable def fin.tw14075178694198228753 : Unit := ()
noncomputable def fin.tw17041991840579044601 : Unit := ()
noncomputable def fin.tw6718411051458867188 : Unit := ()
noncomputable def fin.tw4424551920762525699 : Unit := ()
noncomputable def fin.tw14071174985044305957 : Unit := ()
noncomputable def fin.tw2711489104339610207 : Unit := ()
noncomputable def fin.tw4759752924163587094 : Unit := ()
noncomputable def fin.tw3125960719983571848 : Unit := ()
noncomputable def fin.tw1976505206021243879 : Unit := ()
noncomputable def fin.tw2103456241558337223 : Unit := ()
noncomputable def fin.tw7451905468542833597 : Unit := ()
noncomputable def fin.tw5776136370200156792 : Unit := ()
noncomputable def fin.tw10807920368746810246 : Unit := ()
noncomputable def fin.tw1921391257341544841 : Unit := ()
noncomputable def fin.tw857469055436470443 : Unit := ()
noncomputable def fin.tw10391319463526535247 : Unit := ()
noncomputable def fin.tw17896612028031085017 : Unit := ()
noncomputable def fin.tw15590172107835277464 : Unit := ()
noncomputable def fin.tw8416529770105884409 : Unit := ()
noncomputable def fin.tw7321584467024264148 : Unit := ()
noncomputable def fin.tw10196768644732416780 : Unit := ()
noncomputable def fin.tw6385529401280152062 : Unit := ()
noncomputable def fin.tw216489041496292469 : Unit := ()
noncomputable def fin.tw12977279227502587607 : Unit := ()
noncomputable def fin.tw9757074474933493440 : Unit := ()
noncomputable def fin.tw3810338749695602999 : Unit := ()
noncomputable def fin.tw1613116972386908190 : Unit := ()
noncomputable def fin.tw9722632081671974098 : Unit := ()
noncomputable def fin.tw10696652717036330658 : Unit := ()
noncomputable def fin.tw15205425988870721313 : Unit := ()
noncomputable def fin.tw12962497063298326498 : Unit := ()
noncomputable def fin.tw17130245016438642246 : Unit := ()
noncomputable def fin.tw16708323118627637049 : Unit := ()
noncomputable def fin.tw11414119711712004833 : Unit := ()
noncomputable def fin.tw2503846163805864124 : Unit := ()
noncomputable def fin.tw9746901515087519452 : Unit := ()
noncomputable def fin.tw12292906935544458286 : Unit := ()
noncomputable def fin.tw5652819315849765574 : Unit := ()
noncomputable def fin.tw14449560505687523246 : Unit := ()
noncomputable def fin.tw1713156846745171867 : Unit := ()
noncomputable def fin.tw17347454772498655404 : Unit := ()
noncomputable def fin.tw13929302177132474383 : Unit := ()
noncomputable def fin.tw11079828417688620724 : Unit := ()
noncomputable def fin.tw6295955727852119378 : Unit := ()
noncomputable def fin.tw423345284130997744 : Unit := ()
noncomputable def fin.tw15956405311269535923 : Unit := ()
noncomputable def fin.tw4723787954990577340 : Unit := ()
noncomputable def fin.tw13066358836101814915 : Unit := ()
noncomputable def fin.tw828056024939588000 : Unit := ()
noncomputable def fin.tw12567809125941998234 : Unit := ()
noncomputable def fin.tw11112386831996348380 : Unit := ()
noncomputable def fin.tw2236755162388048479 : Unit := ()
noncomputable def fin.tw9113340658982188547 : Unit := ()
noncomputable def fin.tw12809788781938459499 : Unit := ()
noncomputable def fin.tw7028063314416541132 : Unit := ()
noncomputable def fin.tw10234915967203826555 : Unit := ()
noncomputable def fin.tw544173102793226557 : Unit := ()
noncomputable def fin.tw16656299143469825513 : Unit := ()
noncomputable def fin.tw14254621764821748828 : Unit := ()
noncomputable def fin.tw13814004702073501669 : Unit := ()
noncomputable def fin.tw5962627729488381771 : Unit := ()
noncomputable def fin.tw1080700006314346644 : Unit := ()
noncomputable def fin.tw6144012678527597917 : Unit := ()
noncomputable def fin.tw12740692763255036000 : Unit := ()
noncomputable def fin.tw2304379251839397102 : Unit := ()
noncomputable def fin.tw17821466097196317003 : Unit := ()
noncomputable def fin.tw13294311002278339166 : Unit := ()
noncomputable def fin.tw7773504467932542270 : Unit := ()
noncomputable def fin.tw15094949803261831281 : Unit := ()
noncomputable def fin.tw10852849658779182186 : Unit := ()
noncomputable def fin.tw5011121235533021005 : Unit := ()
noncomputable def fin.tw8352470293576582857 : Unit := ()
noncomputable def fin.tw2377308710366028375 : Unit := ()
noncomputable def fin.tw11061592194353771069 : Unit := ()
noncomputable def fin.tw11454252539852477091 : Unit := ()
noncomputable def fin.tw8272817396058243321 : Unit := ()
noncomputable def fin.tw3459265974087741279 : Unit := ()
noncomputable def fin.tw9913140749668108558 : Unit := ()
noncomputable def fin.tw6956187926921108005 : Unit := ()
noncomputable def fin.tw16503470079419688546 : Unit := ()
noncomputable def fin.tw7380833856163905736 : Unit := ()
noncomputable def fin.tw8289400949097046189 : Unit := ()
noncomputable def fin.tw13249466497337379595 : Unit := ()
noncomputable def fin.tw5647864574477489665 : Unit := ()
noncomputable def fin.tw17425937995043322649 : Unit := ()
noncomputable def fin.tw3955986520655104412 : Unit := ()
noncomputable def fin.tw17801579834951734752 : Unit := ()
noncomputable def fin.tw16903924287465469464 : Unit := ()
noncomputable def fin.tw8919302590299486024 : Unit := ()
noncomputable def fin.tw10393886385942881009 : Unit := ()
noncomputable def fin.tw1088692219920020602 : Unit := ()
noncomputable def fin.tw12612204703400128841 : Unit := ()
noncomputable def fin.tw16934629359412608497 : Unit := ()
noncomputable def fin.tw6650461044873433052 : Unit := ()
noncomputable def fin.tw4754365596532378047 : Unit := ()
noncomputable def fin.tw7055459427971326715 : Unit := ()
noncomputable def fin.tw11298980531735778240 : Unit := ()
noncomputable def fin.tw822015909906219429 : Unit := ()
noncomputable def fin.tw5792265106169080782 : Unit := ()
noncomputable def fin.tw11897717083992391400 : Unit := ()
noncomputable def fin.tw3857263333814641470 : Unit := ()
noncomputable def fin.tw3762306804915933987 : Unit := ()
noncomputable def fin.tw14333544728242365436 : Unit := ()
noncomputable def fin.tw17570509445847580414 : Unit := ()
noncomputable def fin.tw14793013804824869981 : Unit := ()
noncomputable def fin.tw10661595441045977200 : Unit := ()
noncomputable def fin.tw18105942590061964161 : Unit := ()
noncomputable def fin.tw12118000046449163591 : Unit := ()
noncomputable def fin.tw4684940682943077961 : Unit := ()
noncomputable def fin.tw1390109508276135513 : Unit := ()
noncomputable def fin.tw16237762584071213788 : Unit := ()
noncomputable def fin.tw3404873503106905745 : Unit := ()
noncomputable def fin.tw9260378047223084069 : Unit := ()
noncomputable def fin.tw15438501128563792933 : Unit := ()
noncomputable def fin.tw18255404467826089762 : Unit := ()
noncomputable def fin.tw4924110625330727750 : Unit := ()
noncomputable def fin.tw4697593496733698132 : Unit := ()
noncomputable def fin.tw7177338460636591580 : Unit := ()
noncomputable def fin.tw14541005305830221311 : Unit := ()
noncomputable def fin.tw428092273266315144 : Unit := ()
noncomputable def fin.tw12876064707754696378 : Unit := ()
noncomputable def fin.tw6323506392446703087 : Unit := ()
noncomputable def fin.tw15621619335703214680 : Unit := ()
noncomputable def fin.tw16401934584784274106 : Unit := ()
noncomputable def fin.tw2656788454239962097 : Unit := ()
noncomputable def fin.tw10070804522480449196 : Unit := ()
noncomputable def fin.tw13815853411582834384 : Unit := ()
noncomputable def fin.tw14497727239971306367 : Unit := ()
noncomputable def fin.tw13921157682446629093 : Unit := ()
noncomputable def fin.tw7845872953664198349 : Unit := ()
noncomputable def fin.tw7830629276484211593 : Unit := ()
noncomputable def fin.tw3812028171767442716 : Unit := ()
noncomputable def fin.tw6207176494656529804 : Unit := ()
noncomputable def fin.tw18034386255983310008 : Unit := ()
noncomputable def fin.tw11336253725339858928 : Unit := ()
noncomputable def fin.tw9363291351745731410 : Unit := ()
noncomputable def fin.tw4992356995671143779 : Unit := ()
noncomputable def fin.tw15149952090015108872 : Unit := ()
noncomputable def fin.tw3506512066687448480 : Unit := ()
noncomputable def fin.tw14568449535678555946 : Unit := ()
noncomputable def fin.tw9825859731914700964 : Unit := ()
noncomputable def fin.tw16708981103961760564 : Unit := ()
noncomputable def fin.tw13383306551100868464 : Unit := ()
noncomputable def fin.tw13516622038369049944 : Unit := ()
noncomputable def fin.tw16488607150827929282 : Unit := ()
noncomputable def fin.tw7929640520542984453 : Unit := ()
noncomputable def fin.tw5634151482396758240 : Unit := ()
noncomputable def fin.tw12780881840741157306 : Unit := ()
noncomputable def fin.tw3211687289105081006 : Unit := ()
noncomputable def fin.tw2316539691658765527 : Unit := ()
noncomputable def fin.tw15216479089859931547 : Unit := ()
noncomputable def fin.tw10874316729293906858 : Unit := ()
noncomputable def fin.tw6498334528663615478 : Unit := ()
noncomputable def fin.tw10708223146118651492 : Unit := ()
noncomputable def fin.tw8643116662766533202 : Unit := ()
noncomputable def fin.tw799341379326975648 : Unit := ()
noncomputable def fin.tw8119881530291889089 : Unit := ()
noncomputable def fin.tw16540275574145912595 : Unit := ()
noncomputable def fin.tw12141802397888321627 : Unit := ()
noncomputable def fin.tw6455845175183424153 : Unit := ()
noncomputable def fin.tw14856888987745899463 : Unit := ()
noncomputable def fin.tw7282745182861764756 : Unit := ()
noncomputable def fin.tw18105285910621931680 : Unit := ()
noncomputable def fin.tw14109310954907245088 : Unit := ()
noncomputable def fin.tw10511823565363050587 : Unit := ()
noncomputable def fin.tw3173534031939492945 : Unit := ()
noncomputable def fin.tw13295704053362595847 : Unit := ()
noncomputable def fin.tw9357874355931990178 : Unit := ()
noncomputable def fin.tw1035503724928835527 : Unit := ()
noncomputable def fin.tw9297318355482256503 : Unit := ()
noncomputable def fin.tw3885313090954376144 : Unit := ()
noncomputable def fin.tw7278507554335971580 : Unit := ()
noncomputable def fin.tw8330952907988395303 : Unit := ()
noncomputable def fin.tw14814673180317915700 : Unit := ()
noncomputable def fin.tw17743408960866722510 : Unit := ()
noncomputable def fin.tw8814601379904202097 : Unit := ()
noncomputable def fin.tw4878226113927451544 : Unit := ()
noncomputable def fin.tw4043148821406017626 : Unit := ()
noncomputable def fin.tw1012361349325877821 : Unit := ()
noncomputable def fin.tw8281523328739849912 : Unit := ()
noncomputable def fin.tw4162185377826839926 : Unit := ()
noncomputable def fin.tw3599858809825778643 : Unit := ()
noncomputable def fin.tw7021976415091001641 : Unit := ()
noncomputable def fin.tw4312942655851389009 : Unit := ()
noncomputable def fin.tw12868640280835112553 : Unit := ()
noncomputable def fin.tw13925877587632400325 : Unit := ()
noncomputable def fin.tw8559517257967667466 : Unit := ()
noncomputable def fin.tw12237877928780879103 : Unit := ()
noncomputable def fin.tw12932903420030652473 : Unit := ()
noncomputable def fin.tw982560976839675504 : Unit := ()
noncomputable def fin.tw13870153662132920491 : Unit := ()
noncomputable def fin.tw3314143786362844604 : Unit := ()
noncomputable def fin.tw14239432107786713131 : Unit := ()
noncomputable def fin.tw4040260094072895976 : Unit := ()
noncomputable def fin.tw17197158672614542318 : Unit := ()
noncomputable def fin.tw6667815254911646788 : Unit := ()
noncomputable def fin.tw14279960228734115912 : Unit := ()
noncomputable def fin.tw11936995450923721628 : Unit := ()
noncomputable def fin.tw16275787546110486726 : Unit := ()
noncomputable def fin.tw12649782002744950493 : Unit := ()
noncomputable def fin.tw14838103818555229697 : Unit := ()
noncomputable def fin.tw17204297501091165112 : Unit := ()
noncomputable def fin.tw5805905742469029177 : Unit := ()
noncomputable def fin.tw13423622936843584764 : Unit := ()
noncomputable def fin.tw10599938827571368224 : Unit := ()
noncomputable def fin.tw16229209127682248589 : Unit := ()
noncomputable def fin.tw8126443298418566877 : Unit := ()
noncomputable def fin.tw1544503264643628384 : Unit := ()
noncomputable def fin.tw6289197191216398940 : Unit := ()
noncomputable def fin.tw14134379338385194387 : Unit := ()
noncomputable def fin.tw12696600883282566439 : Unit := ()
noncomputable def fin.tw16496857829328116044 : Unit := ()
noncomputable def fin.tw14517564959769073929 : Unit := ()
noncomputable def fin.tw12149302876761508202 : Unit := ()
noncomputable def fin.tw17719728818120068181 : Unit := ()
noncomputable def fin.tw7803649310394182010 : Unit := ()
noncomputable def fin.tw11277574374343807151 : Unit := ()
noncomputable def fin.tw6400248389586479577 : Unit := ()
noncomputable def fin.tw16958243865122950064 : Unit := ()
noncomputable def fin.tw4588413851689716618 : Unit := ()
noncomputable def fin.tw15583698165555649274 : Unit := ()
noncomputable def fin.tw6065766161686371397 : Unit := ()
noncomputable def fin.tw16346027982145689658 : Unit := ()
noncomputable def fin.tw10903267920897829623 : Unit := ()
noncomputable def fin.tw14746839005934993002 : Unit := ()
noncomputable def fin.tw9980247097968143095 : Unit := ()
noncomputable def fin.tw16045397441040808996 : Unit := ()
noncomputable def fin.tw1490183562850061255 : Unit := ()
noncomputable def fin.tw3593896343303496089 : Unit := ()
noncomputable def fin.tw113256386821442715 : Unit := ()
noncomputable def fin.tw5394662039558386917 : Unit := ()
noncomputable def fin.tw7896837427191650641 : Unit := ()
noncomputable def fin.tw4852951585020816913 : Unit := ()
noncomputable def fin.tw2682216942741823458 : Unit := ()
noncomputable def fin.tw7432277043950110542 : Unit := ()
noncomputable def fin.tw9905686960803653521 : Unit := ()
noncomputable def fin.tw12618412141614001324 : Unit := ()
noncomputable def fin.tw7766930329584712575 : Unit := ()
noncomputable def fin.tw7676780281734716909 : Unit := ()
noncomputable def fin.tw10951526433978258453 : Unit := ()
noncomputable def fin.tw3691818818264798288 : Unit := ()
noncomputable def fin.tw2211110736736970245 : Unit := ()
noncomputable def fin.tw13989775047170325453 : Unit := ()
noncomputable def fin.tw12243640000724616132 : Unit := ()
noncomputable def fin.tw4306183835828263991 : Unit := ()
noncomputable def fin.tw13212601443634668783 : Unit := ()
noncomputable def fin.tw15852783269788966334 : Unit := ()
noncomputable def fin.tw14886260759930713980 : Unit := ()
noncomputable def fin.tw1396485452643107974 : Unit := ()
noncomputable def fin.tw13036109555494063943 : Unit := ()
noncomputable def fin.tw3392971581784996567 : Unit := ()
noncomputable def fin.tw15488033001341256678 : Unit := ()
noncomputable def fin.tw11817395117190913677 : Unit := ()
noncomputable def fin.tw18348080538424263610 : Unit := ()
noncomputable def fin.tw17454235116629404107 : Unit := ()
noncomputable def fin.tw677056864620963478 : Unit := ()
noncomputable def fin.tw18049344973403811990 : Unit := ()
noncomputable def fin.tw8301887438922916936 : Unit := ()
noncomputable def fin.tw630371259804642521 : Unit := ()
noncomputable def fin.tw14482833391264307023 : Unit := ()
noncomputable def fin.tw7286384394727015358 : Unit := ()
noncomputable def fin.tw6939341741119825948 : Unit := ()
noncomputable def fin.tw13756506101081282129 : Unit := ()
noncomputable def fin.tw17548838112872110504 : Unit := ()
noncomputable def fin.tw17553169198453629414 : Unit := ()
noncomputable def fin.tw2754251311516795616 : Unit := ()
noncomputable def fin.tw10739447773985664841 : Unit := ()
noncomputable def fin.tw2350739407535017643 : Unit := ()
noncomputable def fin.tw14228821778217809638 : Unit := ()
noncomputable def fin.tw14731966830843760762 : Unit := ()
noncomputable def fin.tw17261539195035387877 : Unit := ()
noncomputable def fin.tw11748635026616426236 : Unit := ()
noncomputable def fin.tw4444572020065800531 : Unit := ()
noncomputable def fin.tw3692600239731148599 : Unit := ()
noncomputable def fin.tw2959728328370630001 : Unit := ()
noncomputable def fin.tw2700962478670386243 : Unit := ()
noncomputable def fin.tw16282118266806054681 : Unit := ()
noncomputable def fin.tw10130958470471293398 : Unit := ()
noncomputable def fin.tw13927242605575269336 : Unit := ()
noncomputable def fin.tw1728397886762362167 : Unit := ()
noncomputable def fin.tw4885367603596973208 : Unit := ()
noncomputable def fin.tw10915506530935411823 : Unit := ()
noncomputable def fin.tw16572179961389722017 : Unit := ()
set_option Elab.async true in
set_option maxHeartbeats 8000000 in
theorem fin : PySem.Challenge.rw_im0070_01.Holds := by
  w_on
  o_law
  o_head (kHook K0 A0 a0_eq)
  (case hw => w_witness2)
  exact walkK _ _ _ _ _ rfl
end Mine
end
theorem PySem.Challenge.cw_im0070_01_holds : PySem.Challenge.rw_im0070_01.Holds :=
  Mine.fin
