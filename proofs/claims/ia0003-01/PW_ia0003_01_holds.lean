import PyProof.Rows.All
import Wide.All
import OpenK.AllK
import Wide.FinOn
import Lean
import PySem.Challenge.RW_ia0003_01
set_option Elab.async false
set_option maxRecDepth 100000
set_option linter.unusedVariables false

namespace Mine
open PySem PySem.Calls PyProof.Rows PySem.W

/-! ## the abstract data -/
inductive PV where
  | none
  | bool (b : Bool)
  | int (i : Int)
  | str (s : Str)
  | tup (l : List PV)
  | lst (l : List PV)
  | obj (n : Nat)

abbrev tupO (vs : Array Value) (n : Nat) : Obj := { cls := .type "tuple", data := .seq vs n }
abbrev lstO (vs : Array Value) (n : Nat) : Obj := { cls := .type "list", data := .seq vs n }

mutual
def VR (φ : List Addr) (h : Heap) : PV → Value → Prop
  | .none, v => v = .none
  | .bool b, v => v = .bool b
  | .int i, v => ∃ t, v = .int i t
  | .str x, v => ∃ t, v = .str x t
  | .tup l, v => ∃ a vs n, v = .ref a ∧ a ∉ φ ∧ h.get? a = some (tupO vs n) ∧ VRs φ h l vs.toList
  | .lst l, v => ∃ a vs, v = .ref a ∧ a ∉ φ ∧ h.PlainList a vs ∧ VRs φ h l vs.toList
  | .obj k, v => ∃ a, φ[k]? = some a ∧ v = .ref a
def VRs (φ : List Addr) (h : Heap) : List PV → List Value → Prop
  | [], [] => True
  | p :: ps, v :: vs => VR φ h p v ∧ VRs φ h ps vs
  | _, _ => False
end

/-- keys of a tuple: ints and strs mixed -/
inductive KA where
  | int (i : Int)
  | str (x : Str)
  deriving DecidableEq

def KA.pv : KA → PV
  | .int i => .int i
  | .str x => .str x

inductive PO where
  | list (l : List PV)
  | idict (es : List (Int × PV)) (ep : Nat)
  | tdict (es : List (List KA × PV)) (ep : Nat)

/-! ## what a step may change -/
structure Mv (W : Addr → Prop) (φ φ' : List Addr) (h h' : Heap) : Prop where
  pre : ∃ r, φ' = φ ++ r ∧ ∀ a ∈ r, h.get? a = none
  keep : ∀ b o, h.get? b = some o → b ∉ φ → ¬ W b → h'.get? b = some o
structure Ext (W : Addr → Prop) (φ φ' : List Addr) (h h' : Heap) : Prop extends Mv W φ φ' h h' where
  dom : ∀ b o, h.get? b = some o → ∃ o', h'.get? b = some o'

theorem Ext.refl {W : Addr → Prop} {φ : List Addr} {h : Heap} : Ext W φ φ h h :=
  ⟨⟨⟨[], by simp, by simp⟩, fun _ _ e _ _ => e⟩, fun _ o e => ⟨o, e⟩⟩

theorem Ext.trans {W : Addr → Prop} {φ φ' φ'' : List Addr} {h h' h'' : Heap} (x : Ext W φ φ' h h') (y : Ext W φ' φ'' h' h'') : Ext W φ φ'' h h'' := by
  obtain ⟨⟨⟨r, rfl, hr⟩, xk⟩, xd⟩ := x
  obtain ⟨⟨⟨r', rfl, hr'⟩, yk⟩, yd⟩ := y
  refine ⟨⟨⟨r ++ r', by simp, fun a ha => ?_⟩, fun b o e hb hW => ?_⟩, fun b o e => ?_⟩
  · rcases List.mem_append.mp ha with ha | ha
    · exact hr a ha
    · cases hq : h.get? a with
      | none => rfl
      | some o => obtain ⟨o', e'⟩ := xd a o hq; rw [hr' a ha] at e'; cases e'
  · refine yk b o (xk b o e hb hW) (fun hm => ?_) hW
    rcases List.mem_append.mp hm with hm | hm
    · exact hb hm
    · rw [hr b hm] at e; cases e
  · obtain ⟨o', e'⟩ := xd b o e; exact yd b o' e'

/-- a step whose own writable part is new goes under the other -/
theorem Ext.trans2 {W W' : Addr → Prop} {φ φ' φ'' : List Addr} {h h' h'' : Heap} (x : Ext W φ φ' h h') (y : Ext W' φ' φ'' h' h'') (hw : ∀ b o, h.get? b = some o → W' b → W b) : Ext W φ φ'' h h'' := by
  obtain ⟨⟨⟨r, rfl, hr⟩, xk⟩, xd⟩ := x
  obtain ⟨⟨⟨r', rfl, hr'⟩, yk⟩, yd⟩ := y
  refine ⟨⟨⟨r ++ r', by simp, fun a ha => ?_⟩, fun b o e hb hW => ?_⟩, fun b o e => ?_⟩
  · rcases List.mem_append.mp ha with ha | ha
    · exact hr a ha
    · cases hq : h.get? a with
      | none => rfl
      | some o => obtain ⟨o', e'⟩ := xd a o hq; rw [hr' a ha] at e'; cases e'
  · refine yk b o (xk b o e hb hW) (fun hm => ?_) fun hw' => hW (hw b o e hw')
    rcases List.mem_append.mp hm with hm | hm
    · exact hb hm
    · rw [hr b hm] at e; cases e
  · obtain ⟨o', e'⟩ := xd b o e; exact yd b o' e'

theorem Mv.mem {W : Addr → Prop} {φ φ' : List Addr} {h h' : Heap} (x : Mv W φ φ' h h') {k : Nat} {a : Addr} (e : φ[k]? = some a) : φ'[k]? = some a := by
  obtain ⟨⟨r, rfl, _⟩, _⟩ := x
  rw [List.getElem?_append_left (List.getElem?_eq_some_iff.mp e).1]; exact e

theorem Mv.notMem {W : Addr → Prop} {φ φ' : List Addr} {h h' : Heap} (x : Mv W φ φ' h h') {b : Addr} {o : Obj} (e : h.get? b = some o) (hb : b ∉ φ) : b ∉ φ' := by
  obtain ⟨⟨r, rfl, hr⟩, _⟩ := x
  intro hm
  rcases List.mem_append.mp hm with hm | hm
  · exact hb hm
  · rw [hr b hm] at e; cases e

theorem get_size (h : Heap) : h.get? h.objs.size = none := by
  cases hq : h.get? h.objs.size with
  | none => rfl
  | some o => exact absurd (Heap.lt_size hq) (Nat.lt_irrefl _)
def NoSeq (W : Addr → Prop) (h : Heap) : Prop := ∀ b, W b → ∀ o vs n, h.get? b = some o → o.data ≠ .seq vs n

mutual
theorem VR.ext {W : Addr → Prop} {φ φ' : List Addr} {h h' : Heap} (x : Mv W φ φ' h h') (hW : NoSeq W h) : ∀ {p : PV} {v : Value}, VR φ h p v → VR φ' h' p v
  | .none, _, r => by unfold VR at r ⊢; exact r
  | .bool _, _, r => by unfold VR at r ⊢; exact r
  | .int _, _, r => by unfold VR at r ⊢; exact r
  | .str _, _, r => by unfold VR at r ⊢; exact r
  | .tup _, _, r => by
    unfold VR at r ⊢
    obtain ⟨a, vs, n, rfl, hf, ho, hr⟩ := r
    exact ⟨a, vs, n, rfl, x.notMem ho hf, x.keep a _ ho hf fun hw => hW a hw _ _ _ ho rfl, VRs.ext x hW hr⟩
  | .lst _, _, r => by
    unfold VR at r ⊢
    obtain ⟨a, vs, rfl, hf, ⟨n, ho⟩, hr⟩ := r
    exact ⟨a, vs, rfl, x.notMem ho hf, ⟨n, x.keep a _ ho hf fun hw => hW a hw _ _ _ ho rfl⟩, VRs.ext x hW hr⟩
  | .obj k, _, r => by
    unfold VR at r ⊢
    obtain ⟨a, ha, rfl⟩ := r
    exact ⟨a, x.mem ha, rfl⟩
theorem VRs.ext {W : Addr → Prop} {φ φ' : List Addr} {h h' : Heap} (x : Mv W φ φ' h h') (hW : NoSeq W h) : ∀ {ps : List PV} {vs : List Value}, VRs φ h ps vs → VRs φ' h' ps vs
  | [], [], _ => by unfold VRs; trivial
  | [], _ :: _, r => by unfold VRs at r; exact r.elim
  | _ :: _, [], r => by unfold VRs at r; exact r.elim
  | _ :: _, _ :: _, r => by
    unfold VRs at r ⊢
    exact ⟨VR.ext x hW r.1, VRs.ext x hW r.2⟩
end

theorem VRs.length {φ : List Addr} {h : Heap} : ∀ {ps : List PV} {vs : List Value}, VRs φ h ps vs → vs.length = ps.length
  | [], [], _ => rfl
  | [], _ :: _, r => by unfold VRs at r; exact r.elim
  | _ :: _, [], r => by unfold VRs at r; exact r.elim
  | _ :: _, _ :: _, r => by unfold VRs at r; simp [VRs.length r.2]

theorem VRs.get {φ : List Addr} {h : Heap} : ∀ {ps : List PV} {vs : List Value} {i : Nat} {p : PV}, VRs φ h ps vs → ps[i]? = some p → ∃ v, vs[i]? = some v ∧ VR φ h p v
  | [], _, _, _, _, e => by simp at e
  | _ :: _, [], _, _, r, _ => by unfold VRs at r; exact r.elim
  | q :: ps, v :: vs, 0, p, r, e => by
    unfold VRs at r
    simp at e; subst e
    exact ⟨v, rfl, r.1⟩
  | q :: ps, v :: vs, i + 1, p, r, e => by
    unfold VRs at r
    exact VRs.get (i := i) r.2 (by simpa using e)

theorem VRs.get' {φ : List Addr} {h : Heap} : ∀ {ps : List PV} {vs : List Value} {i : Nat} {v : Value}, VRs φ h ps vs → vs[i]? = some v → ∃ p, ps[i]? = some p ∧ VR φ h p v
  | [], [], _, _, _, e => by simp at e
  | [], _ :: _, _, _, r, _ => by unfold VRs at r; exact r.elim
  | _ :: _, [], _, _, r, _ => by unfold VRs at r; exact r.elim
  | q :: ps, v :: vs, 0, p, r, e => by
    unfold VRs at r
    simp at e; subst e
    exact ⟨q, rfl, r.1⟩
  | q :: ps, v :: vs, i + 1, p, r, e => by
    unfold VRs at r
    exact VRs.get' (i := i) r.2 (by simpa using e)

theorem VRs.append {φ : List Addr} {h : Heap} : ∀ {ps qs : List PV} {vs us : List Value}, VRs φ h ps vs → VRs φ h qs us → VRs φ h (ps ++ qs) (vs ++ us)
  | [], _, [], _, _, r => r
  | [], _, _ :: _, _, r, _ => by unfold VRs at r; exact r.elim
  | _ :: _, _, [], _, r, _ => by unfold VRs at r; exact r.elim
  | _ :: _, _, _ :: _, _, r, q => by
    unfold VRs at r
    show VRs φ h (_ :: _) (_ :: _)
    unfold VRs
    exact ⟨r.1, VRs.append r.2 q⟩

theorem VRs.nil {φ : List Addr} {h : Heap} : VRs φ h [] [] := by unfold VRs; trivial
theorem VRs.cons {φ : List Addr} {h : Heap} {p : PV} {v : Value} {ps : List PV} {vs : List Value} (a : VR φ h p v) (b : VRs φ h ps vs) : VRs φ h (p :: ps) (v :: vs) := by unfold VRs; exact ⟨a, b⟩
theorem VRs.cons_inv {φ : List Addr} {h : Heap} {p : PV} {ps : List PV} {vs : List Value} (r : VRs φ h (p :: ps) vs) : ∃ v us, vs = v :: us ∧ VR φ h p v ∧ VRs φ h ps us := by
  cases vs with
  | nil => unfold VRs at r; exact r.elim
  | cons v us => unfold VRs at r; exact ⟨v, us, rfl, r.1, r.2⟩
theorem VRs.nil_inv {φ : List Addr} {h : Heap} {vs : List Value} (r : VRs φ h [] vs) : vs = [] := by
  cases vs with
  | nil => rfl
  | cons v us => unfold VRs at r; exact r.elim

theorem vr_int {φ : List Addr} {h : Heap} {i : Int} {t : Tok} : VR φ h (.int i) (.int i t) := by unfold VR; exact ⟨t, rfl⟩
theorem vr_str {φ : List Addr} {h : Heap} {x : Str} {t : Tok} : VR φ h (.str x) (.str x t) := by unfold VR; exact ⟨t, rfl⟩
theorem vr_bool {φ : List Addr} {h : Heap} {b : Bool} : VR φ h (.bool b) (.bool b) := by unfold VR; rfl
theorem vr_none {φ : List Addr} {h : Heap} : VR φ h .none .none := by unfold VR; rfl
theorem vr_obj {φ : List Addr} {h : Heap} {k : Nat} {a : Addr} (e : φ[k]? = some a) : VR φ h (.obj k) (.ref a) := by unfold VR; exact ⟨a, e, rfl⟩
theorem VR.int_inv {φ : List Addr} {h : Heap} {i : Int} {v : Value} (r : VR φ h (.int i) v) : ∃ t, v = .int i t := by unfold VR at r; exact r
theorem VR.str_inv {φ : List Addr} {h : Heap} {i : Str} {v : Value} (r : VR φ h (.str i) v) : ∃ t, v = .str i t := by unfold VR at r; exact r
theorem VR.bool_inv {φ : List Addr} {h : Heap} {b : Bool} {v : Value} (r : VR φ h (.bool b) v) : v = .bool b := by unfold VR at r; exact r
theorem VR.none_inv {φ : List Addr} {h : Heap} {v : Value} (r : VR φ h .none v) : v = .none := by unfold VR at r; exact r
theorem VR.obj_inv {φ : List Addr} {h : Heap} {k : Nat} {v : Value} (r : VR φ h (.obj k) v) : ∃ a, φ[k]? = some a ∧ v = .ref a := by unfold VR at r; exact r
theorem VR.tup_inv {φ : List Addr} {h : Heap} {l : List PV} {v : Value} (r : VR φ h (.tup l) v) : ∃ a vs n, v = .ref a ∧ a ∉ φ ∧ h.get? a = some (tupO vs n) ∧ VRs φ h l vs.toList := by unfold VR at r; exact r
theorem VR.lst_inv {φ : List Addr} {h : Heap} {l : List PV} {v : Value} (r : VR φ h (.lst l) v) : ∃ a vs, v = .ref a ∧ a ∉ φ ∧ h.PlainList a vs ∧ VRs φ h l vs.toList := by unfold VR at r; exact r
theorem vr_tup {φ : List Addr} {h : Heap} {l : List PV} {a : Addr} {vs : Array Value} {n : Nat} (hf : a ∉ φ) (ho : h.get? a = some (tupO vs n)) (r : VRs φ h l vs.toList) : VR φ h (.tup l) (.ref a) := by
  unfold VR; exact ⟨a, vs, n, rfl, hf, ho, r⟩
theorem vr_lst {φ : List Addr} {h : Heap} {l : List PV} {a : Addr} {vs : Array Value} (hf : a ∉ φ) (ho : h.PlainList a vs) (r : VRs φ h l vs.toList) : VR φ h (.lst l) (.ref a) := by
  unfold VR; exact ⟨a, vs, rfl, hf, ho, r⟩
theorem isList_new (h : Heap) (vs : Array Value) : (h.push (lstO vs 0)).PlainList h.objs.size vs := ⟨0, Heap.get?_push_size _ rfl⟩
end Mine

namespace Mine
open PySem PySem.Calls PyProof.Rows PySem.W

/-! ## keys -/
def KA.is : KA → Value → Bool
  | .int i, v => Value.isInt i v
  | .str x, v => Value.isStrOf x v
def KA.hash (w : World) : KA → Int
  | .int i => hashInt i
  | .str x => hashStr w x
theorem KA.is_int {i : Int} {v : Value} (h : (KA.int i).is v = true) : ∃ t, v = .int i t := Value.isInt_shape (k := i) (v := v) h
theorem KA.is_str {x : Str} {v : Value} (h : (KA.str x).is v = true) : ∃ t, v = .str x t := Value.isStrOf_shape (x := x) (v := v) h
theorem KA.is_inj (v : Value) (a b : KA) (ha : a.is v = true) (hb : b.is v = true) : a = b := by
  cases a with
  | int i =>
    obtain ⟨t, rfl⟩ := KA.is_int ha
    cases b with
    | int j => obtain ⟨u, h⟩ := KA.is_int hb; cases h; rfl
    | str y => obtain ⟨u, h⟩ := KA.is_str hb; cases h
  | str x =>
    obtain ⟨t, rfl⟩ := KA.is_str ha
    cases b with
    | int j => obtain ⟨u, h⟩ := KA.is_int hb; cases h
    | str y => obtain ⟨u, h⟩ := KA.is_str hb; cases h; rfl

def mixKind (prog : Program) (w : World) : KeyKind prog w KA where
  is := KA.is
  hash := KA.hash w
  inj := KA.is_inj
  byValue := fun k v h => by
    cases k with
    | int i => obtain ⟨t, rfl⟩ := KA.is_int h; rfl
    | str x => obtain ⟨t, rfl⟩ := KA.is_str h; rfl
  pyHash := fun {_ _ _ k _ _} hv h => by
    cases k with
    | int i => obtain ⟨t, rfl⟩ := KA.is_int hv; exact wpAny_pyHash_int h
    | str x => obtain ⟨t, rfl⟩ := KA.is_str hv; exact wpAny_pyHash_str h
  eqBool := fun {A _ s a b _ _ Q} hu hv h => by
    cases a with
    | int i =>
      obtain ⟨t, rfl⟩ := KA.is_int hu
      cases b with
      | int j =>
        obtain ⟨u, rfl⟩ := KA.is_int hv
        refine wpAny_eqBool_int ?_
        have : (i == j) = decide (KA.int i = KA.int j) := by
          by_cases hij : i = j
          · subst hij; simp
          · rw [beq_eq_false_iff_ne.mpr hij, decide_eq_false fun e => hij (KA.int.inj e)]
        rw [this]; exact h
      | str y =>
        obtain ⟨u, rfl⟩ := KA.is_str hv
        exact PySem.SeqAt.EqAt.int_str i t y u prog w _ _ (by simpa using h)
    | str x =>
      obtain ⟨t, rfl⟩ := KA.is_str hu
      cases b with
      | int j =>
        obtain ⟨u, rfl⟩ := KA.is_int hv
        exact PySem.SeqAt.EqAt.str_int x t j u prog w _ _ (by simpa using h)
      | str y =>
        obtain ⟨u, rfl⟩ := KA.is_str hv
        exact wpAny_eqBool_str (by simpa using h)
  «strs» := fun k x t v h => by
    cases k with
    | int i => obtain ⟨u, hu⟩ := KA.is_int h; cases hu
    | str y =>
      obtain ⟨u, hu⟩ := KA.is_str h
      cases hu
      cases v <;> simp [KA.is, Value.isStrOf, Value.isStr]

abbrev tupK (prog : Program) (w : World) : HeapKind prog w (List KA) := tupleKind (mixKind prog w)

/-! ## tracked objects -/
def TAt (prog : Program) (w : World) (h : Heap) (d : Addr) (xs : List (List KA × Addr × Value)) (ep : Nat) : Prop :=
  ∃ o es, h.get? d = some o ∧ o.ExactDict ∧ o.data = .dict es ep ∧ es.toList = xs.map (entryOfKey (tupK prog w)) ∧ (∀ x ∈ xs, (tupK prog w).is h x.1 x.2.1) ∧ (xs.map (·.1)).Nodup
theorem TAt.of {prog : Program} {w : World} {h : Heap} {d : Addr} {xs : List (List KA × Addr × Value)} {ep : Nat} (x : TAt prog w h d xs ep) : h.DictOfH (tupK prog w) d xs := let ⟨o, es, r⟩ := x; ⟨o, es, ep, r⟩
theorem TAt.to {prog : Program} {w : World} {h : Heap} {d : Addr} {xs : List (List KA × Addr × Value)} (x : h.DictOfH (tupK prog w) d xs) : ∃ ep, TAt prog w h d xs ep := let ⟨o, es, ep, r⟩ := x; ⟨ep, o, es, r⟩
def IDict (prog : Program) (w : World) (φ : List Addr) (h : Heap) (d : Addr) (es : List (Int × PV)) (ep : Nat) : Prop :=
  ∃ kvs : List (Int × Value), h.DictAt (intKind prog w) d kvs ep ∧ kvs.map (·.1) = es.map (·.1) ∧ VRs φ h (es.map (·.2)) (kvs.map (·.2))
def TDict (prog : Program) (w : World) (φ : List Addr) (h : Heap) (d : Addr) (es : List (List KA × PV)) (ep : Nat) : Prop :=
  ∃ xs : List (List KA × Addr × Value), TAt prog w h d xs ep ∧ xs.map (·.1) = es.map (·.1) ∧
    VRs φ h (es.map fun e => .tup (e.1.map KA.pv)) (xs.map fun x => .ref x.2.1) ∧ VRs φ h (es.map (·.2)) (xs.map (·.2.2))
def OR (prog : Program) (w : World) (φ : List Addr) (h : Heap) (a : Addr) : PO → Prop
  | .list l => ∃ vs, h.PlainList a vs ∧ VRs φ h l vs.toList
  | .idict es ep => IDict prog w φ h a es ep
  | .tdict es ep => TDict prog w φ h a es ep

theorem vrs_tup_keys {prog : Program} {w : World} {φ : List Addr} {h : Heap} : ∀ {ks : List KA} {vs : List Value}, VRs φ h (ks.map KA.pv) vs → ItemsAre (mixKind prog w) ks vs
  | [], vs, r => by rw [VRs.nil_inv r]; exact .nil
  | k :: ks, vs, r => by
    obtain ⟨v, us, rfl, hv, hr⟩ := VRs.cons_inv (p := k.pv) (ps := ks.map KA.pv) r
    refine .cons ?_ (vrs_tup_keys hr)
    cases k with
    | int i => obtain ⟨t, rfl⟩ := VR.int_inv hv; simp [mixKind, KA.is, Value.isInt]
    | str x => obtain ⟨t, rfl⟩ := VR.str_inv hv; simp [mixKind, KA.is, Value.isStrOf]
theorem VR.isKey {prog : Program} {w : World} {φ : List Addr} {h : Heap} {ks : List KA} {a : Addr} (r : VR φ h (.tup (ks.map KA.pv)) (.ref a)) : (tupK prog w).is h ks a := by
  obtain ⟨a', vs, n, e, _, ho, hr⟩ := VR.tup_inv r
  cases e
  exact ⟨_, vs, n, ho, rfl, rfl, vrs_tup_keys hr⟩

theorem DictAt.move {prog : Program} {w : World} {K : Type} [DecidableEq K] {knd : KeyKind prog w K} {h h' : Heap} {a : Addr} {kvs : List (K × Value)} {ep : Nat} (x : h.DictAt knd a kvs ep)
    (e : ∀ o, h.get? a = some o → h'.get? a = some o) : h'.DictAt knd a kvs ep := let ⟨o, es, ho, r⟩ := x; ⟨o, es, e _ ho, r⟩
theorem TAt.move {prog : Program} {w : World} {h h' : Heap} {a : Addr} {xs : List (List KA × Addr × Value)} {ep : Nat} (x : TAt prog w h a xs ep)
    (e : ∀ o, h.get? a = some o → h'.get? a = some o) (k : ∀ p ∈ xs, (tupK prog w).is h' p.1 p.2.1) : TAt prog w h' a xs ep :=
  let ⟨o, es, ho, c, d, l, _, n⟩ := x; ⟨o, es, e _ ho, c, d, l, k, n⟩

theorem keys_of {prog : Program} {w : World} {φ : List Addr} {h : Heap} {es : List (List KA × PV)} {xs : List (List KA × Addr × Value)} (hk : xs.map (·.1) = es.map (·.1))
    (hr : VRs φ h (es.map fun e => .tup (e.1.map KA.pv)) (xs.map fun x => .ref x.2.1)) : ∀ p ∈ xs, VR φ h (.tup (p.1.map KA.pv)) (.ref p.2.1) := by
  intro p hp
  obtain ⟨i, hi⟩ := List.mem_iff_getElem?.mp hp
  obtain ⟨q, hq, hv⟩ := VRs.get' (i := i) hr (v := .ref p.2.1) (by rw [List.getElem?_map, hi]; rfl)
  rw [List.getElem?_map] at hq
  cases he : es[i]? with
  | none => rw [he] at hq; cases hq
  | some e =>
    rw [he] at hq; cases hq
    have : p.1 = e.1 := by
      have h1 := congrArg (fun l => l[i]?) hk
      simp only [List.getElem?_map, hi, he, Option.map_some] at h1
      exact Option.some.inj h1
    rw [this]; exact hv

/-- an object that is kept as it is, at a heap that extends -/
theorem OR.move {prog : Program} {w : World} {W : Addr → Prop} {φ φ' : List Addr} {h h' : Heap} (x : Mv W φ φ' h h') (hW : NoSeq W h) {a : Addr} {po : PO}
    (e : ∀ o, h.get? a = some o → h'.get? a = some o) (r : OR prog w φ h a po) : OR prog w φ' h' a po := by
  cases po with
  | list l => obtain ⟨vs, ho, hr⟩ := r; exact ⟨vs, ho.at e, VRs.ext x hW hr⟩
  | idict es ep => obtain ⟨kvs, hd, hk, hr⟩ := r; exact ⟨kvs, DictAt.move hd e, hk, VRs.ext x hW hr⟩
  | tdict es ep =>
    obtain ⟨xs, hd, hk, h1, h2⟩ := r
    have h1' := VRs.ext x hW h1
    exact ⟨xs, TAt.move hd e fun p hp => VR.isKey (keys_of (prog := prog) (w := w) hk h1' p hp), hk, h1', VRs.ext x hW h2⟩

theorem OR.there {prog : Program} {w : World} {φ : List Addr} {h : Heap} {a : Addr} {po : PO} (r : OR prog w φ h a po) : ∃ o, h.get? a = some o := by
  cases po with
  | list l => obtain ⟨vs, ⟨_, ho⟩, _⟩ := r; exact ⟨_, ho⟩
  | idict es ep => obtain ⟨kvs, ⟨o, _, ho, _⟩, _⟩ := r; exact ⟨o, ho⟩
  | tdict es ep => obtain ⟨xs, ⟨o, _, ho, _⟩, _⟩ := r; exact ⟨o, ho⟩

/-! ## frames -/
inductive Slot where
  | loc
  | own (c : Addr)
  | cap (c : Addr)

structure Base where
  prog : Program
  w : World
  h0 : Heap
  os : OsState
structure Ctx extends Base where
  env : Env
  D : List (Str × Slot)

def Slot.cell? : Slot → Option Addr
  | .loc => none
  | .own c => some c
  | .cap c => some c

def Ctx.W (C : Ctx) (b : Addr) : Prop := b = C.env.locals ∨ ∃ x, (x, Slot.own b) ∈ C.D
def Ctx.Cell (C : Ctx) (b : Addr) : Prop := ∃ y ∈ C.D, y.2.cell? = some b

def SlotStat (env : Env) (x : Str) : Slot → Prop
  | .loc => env.kindOf x = some .local
  | .own c => env.kindOf x = some .cell ∧ env.cells.lookup x = some c ∧ c ≠ env.locals
  | .cap c => (env.kindOf x = some .cell ∨ env.kindOf x = some .free) ∧ env.cells.lookup x = some c ∧ c ≠ env.locals

structure Ctx.Ok (C : Ctx) : Prop where
  kind : C.env.scope.kind = .function
  glob : C.env.globals = mainGlobals
  bui : C.env.builtins = builtinsNs
  stat : ∀ y ∈ C.D, SlotStat C.env y.1 y.2
  names : (C.D.map (·.1)).Nodup
  apart : ∀ y z c, y ∈ C.D → z ∈ C.D → y.2.cell? = some c → z.2.cell? = some c → y = z

def SlotR (φ : List Addr) (h : Heap) (ml : Str → Option Value) (y : Str × Slot) (ov : Option PV) : Prop :=
  match y.2.cell? with
  | none => match ov with
    | none => True
    | some p => ∃ v, ml y.1 = some v ∧ VR φ h p v
  | some c => match ov with
    | none => ∃ v, h.IsCell c v
    | some p => ∃ v, h.IsCell c (some v) ∧ VR φ h p v

/-- the state without a frame -/
structure GSt (B : Base) (φ : List Addr) (ps : List PO) (s : Shared) : Prop where
  base : ∀ b o, B.h0.get? b = some o → s.heap.get? b = some o
  new : ∀ a ∈ φ, B.h0.get? a = none
  nd : φ.Nodup
  len : ps.length = φ.length
  objs : ∀ (k : Nat) (a : Addr) (po : PO), φ[k]? = some a → ps[k]? = some po → OR B.prog B.w φ s.heap a po
  gens : s.gens = #[]
  os : s.os = B.os
  mod : sysModules ∉ φ
  lim : B.h0.NoLimit

structure St (C : Ctx) (φ : List Addr) (m : List (Option PV)) (ps : List PO) (s : Shared) : Prop where
  ok : C.Ok
  base : ∀ b o, C.h0.get? b = some o → s.heap.get? b = some o
  new : ∀ a, (a ∈ φ ∨ C.W a) → C.h0.get? a = none
  nd : φ.Nodup
  len : ps.length = φ.length
  objs : ∀ (k : Nat) (a : Addr) (po : PO), φ[k]? = some a → ps[k]? = some po → OR C.prog C.w φ s.heap a po
  off : ∀ a, (a = C.env.locals ∨ C.Cell a) → a ∉ φ
  loc : ∃ ml, s.heap.Ns C.env.locals ml ∧ ∀ (i : Nat) (y : Str × Slot) (ov : Option PV), C.D[i]? = some y → m[i]? = some ov → SlotR φ s.heap ml y ov
  mlen : m.length = C.D.length
  gens : s.gens = #[]
  os : s.os = C.os
  mod : sysModules ∉ φ
  lim : C.h0.NoLimit

variable {C : Ctx} {φ : List Addr} {m : List (Option PV)} {ps : List PO} {s : Shared}

theorem SlotR.cellThere {φ : List Addr} {h : Heap} {ml : Str → Option Value} {y : Str × Slot} {ov : Option PV} {c : Addr} (r : SlotR φ h ml y ov) (e : y.2.cell? = some c) : ∃ v, h.IsCell c v := by
  unfold SlotR at r
  rw [e] at r
  cases ov with
  | none => exact r
  | some p => obtain ⟨v, hv, _⟩ := r; exact ⟨_, hv⟩

theorem St.cell (S : St C φ m ps s) {c : Addr} (hc : C.Cell c) : ∃ v, s.heap.IsCell c v := by
  obtain ⟨y, hy, e⟩ := hc
  obtain ⟨i, hi⟩ := List.mem_iff_getElem?.mp hy
  obtain ⟨ml, _, hs⟩ := S.loc
  have hlt : i < m.length := by rw [S.mlen]; exact (List.getElem?_eq_some_iff.mp hi).1
  exact SlotR.cellThere (hs i y m[i] hi (List.getElem?_eq_getElem hlt)) e

theorem Ctx.W.cell (C : Ctx) {b : Addr} (h : C.W b) : b = C.env.locals ∨ C.Cell b := by
  rcases h with h | ⟨x, hx⟩
  · exact .inl h
  · exact .inr ⟨_, hx, rfl⟩

theorem St.noSeq (S : St C φ m ps s) : NoSeq C.W s.heap := by
  intro b hb o vs n ho hd
  rcases Ctx.W.cell C hb with rfl | hc
  · obtain ⟨ml, ⟨o', es, ep, ho', hd', _⟩, _⟩ := S.loc
    rw [ho] at ho'; cases ho'; rw [hd] at hd'; cases hd'
  · obtain ⟨v, o', ho', hd'⟩ := S.cell hc
    rw [ho] at ho'; cases ho'; rw [hd] at hd'; cases hd'

theorem St.vr {φ' : List Addr} {h' : Heap} (S : St C φ m ps s) (x : Ext C.W φ φ' s.heap h') {p : PV} {v : Value} (r : VR φ s.heap p v) : VR φ' h' p v := VR.ext x.toMv S.noSeq r
theorem St.vrs {φ' : List Addr} {h' : Heap} (S : St C φ m ps s) (x : Ext C.W φ φ' s.heap h') {p : List PV} {v : List Value} (r : VRs φ s.heap p v) : VRs φ' h' p v := VRs.ext x.toMv S.noSeq r

theorem SlotR.move {W : Addr → Prop} {φ φ' : List Addr} {h h' : Heap} {ml : Str → Option Value} {y : Str × Slot} {ov : Option PV} (x : Mv W φ φ' h h') (hW : NoSeq W h)
    (e : ∀ c v, y.2.cell? = some c → h.IsCell c v → h'.IsCell c v) (r : SlotR φ h ml y ov) : SlotR φ' h' ml y ov := by
  unfold SlotR at r ⊢
  cases hc : y.2.cell? with
  | none =>
    rw [hc] at r
    cases ov with
    | none => trivial
    | some p => obtain ⟨v, hv, hr⟩ := r; exact ⟨v, hv, VR.ext x hW hr⟩
  | some c =>
    rw [hc] at r
    cases ov with
    | none => obtain ⟨v, hv⟩ := r; exact ⟨v, e c v hc hv⟩
    | some p => obtain ⟨v, hv, hr⟩ := r; exact ⟨v, e c _ hc hv, VR.ext x hW hr⟩

/-- a change that leaves the frame alone and the tracked objects as told -/
theorem St.step (S : St C φ m ps s) {φ' : List Addr} {ps' : List PO} {h' : Heap} (t : Nat) (x : Ext C.W φ φ' s.heap h') (hmod : sysModules ∉ φ') (hnd : φ'.Nodup) (hlen : ps'.length = φ'.length)
    (hobjs : ∀ (k : Nat) (a : Addr) (po : PO), φ'[k]? = some a → ps'[k]? = some po → OR C.prog C.w φ' h' a po)
    (hW : ∀ a o, (a = C.env.locals ∨ C.Cell a) → s.heap.get? a = some o → h'.get? a = some o) : St C φ' m ps' { s with heap := h', toks := t } := by
  have base : ∀ b o, C.h0.get? b = some o → h'.get? b = some o := fun b o e => by
    refine x.keep b o (S.base b o e) (fun hm => ?_) fun hw => ?_
    · rw [S.new b (.inl hm)] at e; cases e
    · rw [S.new b (.inr hw)] at e; cases e
  obtain ⟨r, rfl, hr⟩ := x.pre
  refine ⟨S.ok, base, fun a ha => ?_, hnd, hlen, hobjs, fun a ha hm => ?_, ?_, S.mlen, S.gens, S.os, hmod, S.lim⟩
  · rcases ha with ha | ha
    · rcases List.mem_append.mp ha with ha | ha
      · exact S.new a (.inl ha)
      · cases hq : C.h0.get? a with
        | none => rfl
        | some o => have := S.base a o hq; rw [hr a ha] at this; cases this
    · exact S.new a (.inr ha)
  · rcases List.mem_append.mp hm with hm | hm
    · exact S.off a ha hm
    · have : ∃ o, s.heap.get? a = some o := by
        rcases ha with rfl | hc
        · obtain ⟨ml, ⟨o, _, _, ho, _⟩, _⟩ := S.loc; exact ⟨o, ho⟩
        · obtain ⟨v, o, ho, _⟩ := S.cell hc; exact ⟨o, ho⟩
      obtain ⟨o, ho⟩ := this
      rw [hr a hm] at ho; cases ho
  · obtain ⟨ml, ⟨o, es, ep, ho, rest⟩, hs⟩ := S.loc
    refine ⟨ml, ⟨o, es, ep, hW _ o (.inl rfl) ho, rest⟩, fun i y ov hi hm => ?_⟩
    refine SlotR.move x.toMv S.noSeq (fun c v hc hv => ?_) (hs i y ov hi hm)
    obtain ⟨oc, hoc, hd⟩ := hv
    exact ⟨oc, hW c oc (.inr ⟨y, List.mem_of_getElem? hi, hc⟩) hoc, hd⟩

/-- only untracked objects are made or turned -/
theorem St.other (S : St C φ m ps s) {h' : Heap} (t : Nat) (hk : ∀ b o, s.heap.get? b = some o → (b ∈ φ ∨ b = C.env.locals ∨ C.Cell b) → h'.get? b = some o)
    (x : Ext C.W φ φ s.heap h') : St C φ m ps { s with heap := h', toks := t } :=
  S.step t x S.mod S.nd S.len (fun k a po ha hp => OR.move x.toMv S.noSeq (fun o e => hk a o e (.inl (List.mem_of_getElem? ha))) (S.objs k a po ha hp)) fun a o ha e => hk a o e (.inr ha)

theorem Ext.ofKeep {W : Addr → Prop} {φ : List Addr} {h h' : Heap} (k : ∀ b o, h.get? b = some o → h'.get? b = some o) : Ext W φ φ h h' :=
  ⟨⟨⟨[], by simp, by simp⟩, fun b o e _ _ => k b o e⟩, fun b o e => ⟨o, k b o e⟩⟩

theorem St.tok (S : St C φ m ps s) (t : Nat) : St C φ m ps { s with toks := t } := S.other (h' := s.heap) t (fun _ _ e _ => e) Ext.refl

theorem St.keep (S : St C φ m ps s) {h' : Heap} (t : Nat) (k : ∀ b o, s.heap.get? b = some o → h'.get? b = some o) : St C φ m ps { s with heap := h', toks := t } :=
  S.other t (fun b o e _ => k b o e) (Ext.ofKeep k)
theorem St.push (S : St C φ m ps s) (o : Obj) (t : Nat) : St C φ m ps { s with heap := s.heap.push o, toks := t } :=
  S.keep t (fun _ _ e => Heap.get?_push_of_some o e)
theorem Ext.push {W : Addr → Prop} {φ : List Addr} {h : Heap} (o : Obj) : Ext W φ φ h (h.push o) :=
  Ext.ofKeep (fun _ _ e => Heap.get?_push_of_some o e)

theorem St.g (S : St C φ m ps s) : GSt C.toBase φ ps s := ⟨S.base, fun a ha => S.new a (.inl ha), S.nd, S.len, S.objs, S.gens, S.os, S.mod, S.lim⟩

theorem St.back {φ' : List Addr} {ps' : List PO} {s' : Shared} (S : St C φ m ps s) (G : GSt C.toBase φ' ps' s') (x : Ext (fun _ => False) φ φ' s.heap s'.heap) :
    St C φ' m ps' s' ∧ Ext C.W φ φ' s.heap s'.heap := by
  have x' : Ext C.W φ φ' s.heap s'.heap := ⟨⟨x.pre, fun b o e hb _ => x.keep b o e hb id⟩, x.dom⟩
  refine ⟨⟨S.ok, G.base, fun a ha => ?_, G.nd, G.len, G.objs, fun a ha hm => ?_, ?_, S.mlen, G.gens, G.os, G.mod, S.lim⟩, x'⟩
  · rcases ha with ha | ha
    · exact G.new a ha
    · exact S.new a (.inr ha)
  · have : ∃ o, s.heap.get? a = some o := by
      rcases ha with rfl | hc
      · obtain ⟨ml, ⟨o, _, _, ho, _⟩, _⟩ := S.loc; exact ⟨o, ho⟩
      · obtain ⟨v, o, ho, _⟩ := S.cell hc; exact ⟨o, ho⟩
    obtain ⟨o, ho⟩ := this
    exact x.notMem ho (S.off a ha) hm
  · obtain ⟨ml, ⟨o, es, ep, ho, rest⟩, hs⟩ := S.loc
    refine ⟨ml, ⟨o, es, ep, x.keep _ o ho (S.off _ (.inl rfl)) id, rest⟩, fun i y ov hi hm => ?_⟩
    refine SlotR.move x'.toMv S.noSeq (fun c v hc hv => ?_) (hs i y ov hi hm)
    obtain ⟨oc, hoc, hd⟩ := hv
    exact ⟨oc, x.keep c oc hoc (S.off c (.inr ⟨y, List.mem_of_getElem? hi, hc⟩)) id, hd⟩

theorem St.fresh_φ (S : St C φ m ps s) : s.heap.objs.size ∉ φ := by
  intro hm
  obtain ⟨k, hk⟩ := List.mem_iff_getElem?.mp hm
  have hlt : k < ps.length := by rw [S.len]; exact (List.getElem?_eq_some_iff.mp hk).1
  obtain ⟨o, ho⟩ := (S.objs k _ ps[k] hk (List.getElem?_eq_getElem hlt)).there
  exact absurd (Heap.lt_size ho) (Nat.lt_irrefl _)

theorem low_mod {h0 h : Heap} (hb : ∀ b o, h0.get? b = some o → h.get? b = some o) (hl : h0.NoLimit) : sysModules < h.objs.size := by
  obtain ⟨mc, ⟨o, _, _, ho, _⟩, _⟩ := hl
  exact Nat.lt_trans (by decide : sysModules < cStatics) (Heap.lt_size (hb _ _ ho))
theorem Ext.alloc {W : Addr → Prop} {φ : List Addr} {h : Heap} (o : Obj) : Ext W φ (φ ++ [h.objs.size]) h (h.push o) :=
  ⟨⟨⟨_, rfl, fun a ha => by simp at ha; subst ha; exact get_size h⟩, fun b o' e _ _ => Heap.get?_push_of_some o e⟩, fun b o' e => ⟨o', Heap.get?_push_of_some o e⟩⟩
/-- a new tracked object -/
theorem St.alloc (S : St C φ m ps s) {o : Obj} {po : PO} (t : Nat) (hr : OR C.prog C.w (φ ++ [s.heap.objs.size]) (s.heap.push o) s.heap.objs.size po) :
    St C (φ ++ [s.heap.objs.size]) m (ps ++ [po]) { s with heap := s.heap.push o, toks := t } ∧ Ext C.W φ (φ ++ [s.heap.objs.size]) s.heap (s.heap.push o) := by
  have x : Ext C.W φ (φ ++ [s.heap.objs.size]) s.heap (s.heap.push o) :=
    Ext.alloc o
  refine ⟨S.step t x ?_ ?_ (by simp [S.len]) (fun k a p ha hp => ?_) fun a o' _ e => Heap.get?_push_of_some o e, x⟩
  · intro hm
    rcases List.mem_append.mp hm with hm | hm
    · exact S.mod hm
    · have h1 : sysModules = s.heap.objs.size := by simpa using hm
      exact absurd h1 (Nat.ne_of_lt (low_mod S.base S.lim))
  · exact List.nodup_append.mpr ⟨S.nd, by simp, fun a ha b hb => by simp at hb; subst hb; exact fun e => S.fresh_φ (e ▸ ha)⟩
  · by_cases hk : k < φ.length
    · rw [List.getElem?_append_left hk] at ha
      rw [List.getElem?_append_left (by rw [S.len]; exact hk)] at hp
      exact OR.move x.toMv S.noSeq (fun o' e => Heap.get?_push_of_some o e) (S.objs k a p ha hp)
    · have hk' : φ.length ≤ k := Nat.not_lt.mp hk
      rw [List.getElem?_append_right hk'] at ha
      rw [List.getElem?_append_right (by rw [S.len]; exact hk')] at hp
      have : k - φ.length = 0 := by
        have := (List.getElem?_eq_some_iff.mp ha).1
        simpa using this
      rw [this] at ha
      rw [S.len, this] at hp
      simp at ha hp
      subst ha hp
      exact hr

theorem SameBut.dom {a : Addr} {h h' : Heap} (hs : Heap.SameBut a h h') (ha : (∃ o, h.get? a = some o) → ∃ o, h'.get? a = some o) : ∀ b o, h.get? b = some o → ∃ o', h'.get? b = some o' := by
  intro b o e
  by_cases hb : b = a
  · subst hb; exact ha ⟨o, e⟩
  · exact ⟨o, (hs.2 b hb).trans e⟩
/-- a tracked object is turned -/
theorem St.turn (S : St C φ m ps s) {k : Nat} {a : Addr} {po : PO} {h' : Heap} (t : Nat) (ha : φ[k]? = some a) (hs : Heap.SameBut a s.heap h')
    (hd : ∃ o, h'.get? a = some o) (hr : Ext C.W φ φ s.heap h' → OR C.prog C.w φ h' a po) : St C φ m (ps.set k po) { s with heap := h', toks := t } ∧ Ext C.W φ φ s.heap h' := by
  have x : Ext C.W φ φ s.heap h' := ⟨⟨⟨[], by simp, by simp⟩, fun b o e hb _ => (hs.2 b fun e' => hb (e' ▸ List.mem_of_getElem? ha)).trans e⟩, SameBut.dom hs fun _ => hd⟩
  refine ⟨S.step t x S.mod S.nd (by simp [S.len]) (fun j b p hb hp => ?_) fun b o hb e => ?_, x⟩
  · by_cases hj : k = j
    · subst hj
      rw [ha] at hb; cases hb
      have hlt : k < ps.length := by rw [S.len]; exact (List.getElem?_eq_some_iff.mp ha).1
      rw [List.getElem?_set_self hlt] at hp
      cases hp
      exact hr x
    · rw [List.getElem?_set_ne hj] at hp
      refine OR.move x.toMv S.noSeq (fun o e => (hs.2 b fun e' => ?_).trans e) (S.objs j b p hb hp)
      subst e'
      exact hj ((List.getElem?_inj (List.getElem?_eq_some_iff.mp ha).1 S.nd).mp (ha.trans hb.symm))
  · exact (hs.2 b fun e' => S.off b hb (e' ▸ List.mem_of_getElem? ha)).trans e
end Mine

namespace Mine
open PySem PySem.Calls PyProof.Rows PySem.W

def Room (n : Nat) (A : Around) : Prop := A.handled = none ∧ A.depth + n < recursionLimit ∧ A.units + (64 + 16 * n) < cLine
theorem Room.units {n : Nat} {A : Around} (r : Room n A) : A.units < cLine := by have := r.2.2; omega
theorem Room.units1 {n : Nat} {A : Around} (r : Room n A) : A.in1.units < cLine := by have := r.2.2; show A.units + 1 < cLine; omega
theorem Room.depth {n : Nat} {A : Around} (r : Room n A) : A.depth < recursionLimit := by have := r.2.1; omega
theorem Room.deeper {n : Nat} {A : Around} (r : Room (n + 1) A) (env : Env) : Room n (A.deeper env) := by
  refine ⟨r.1, ?_, ?_⟩
  · have := r.2.1; show A.depth + 1 + n < recursionLimit; omega
  · have := r.2.2; show A.units + 3 + (64 + 16 * n) < cLine; omega
inductive Post (C : Ctx) (φ : List Addr) (m : List (Option PV)) (h : Heap) (Q : PV → List PO → Prop) (v : Value) (s' : Shared) : Prop
  | mk (φ' : List Addr) (p : PV) (ps' : List PO) (q : Q p ps') (S : St C φ' m ps' s') (r : VR φ' s'.heap p v) (x : Ext C.W φ φ' h s'.heap) : Post C φ m h Q v s'
inductive PostB (C : Ctx) (φ : List Addr) (m : List (Option PV)) (h : Heap) (Q : Bool → List PO → Prop) (b : Bool) (s' : Shared) : Prop
  | mk (φ' : List Addr) (ps' : List PO) (q : Q b ps') (S : St C φ' m ps' s') (x : Ext C.W φ φ' h s'.heap) : PostB C φ m h Q b s'
inductive PostL (C : Ctx) (φ : List Addr) (m : List (Option PV)) (h : Heap) (Q : List PV → List PO → Prop) (vs : List Value) (s' : Shared) : Prop
  | mk (φ' : List Addr) (l : List PV) (ps' : List PO) (q : Q l ps') (S : St C φ' m ps' s') (r : VRs φ' s'.heap l vs) (x : Ext C.W φ φ' h s'.heap) : PostL C φ m h Q vs s'
inductive AF where
  | next | brk | cont
  | ret (p : PV)
def FR (φ : List Addr) (h : Heap) : AF → Flow → Prop
  | .next, f => f = .next
  | .brk, f => f = .brk
  | .cont, f => f = .cont
  | .ret p, f => ∃ v, f = .ret v ∧ VR φ h p v
inductive PostS (C : Ctx) (φ : List Addr) (h : Heap) (Q : AF → List (Option PV) → List PO → Prop) (f : Flow) (s' : Shared) : Prop
  | mk (φ' : List Addr) (a : AF) (m' : List (Option PV)) (ps' : List PO) (q : Q a m' ps') (S : St C φ' m' ps' s') (r : FR φ' s'.heap a f) (x : Ext C.W φ φ' h s'.heap) : PostS C φ h Q f s'
inductive PostU (C : Ctx) (φ : List Addr) (h : Heap) (Q : List (Option PV) → List PO → Prop) (s' : Shared) : Prop
  | mk (φ' : List Addr) (m' : List (Option PV)) (ps' : List PO) (q : Q m' ps') (S : St C φ' m' ps' s') (x : Ext C.W φ φ' h s'.heap) : PostU C φ h Q s'
inductive GPost (B : Base) (φ : List Addr) (h : Heap) (Q : PV → List PO → Prop) (v : Value) (s' : Shared) : Prop
  | mk (φ' : List Addr) (p : PV) (ps' : List PO) (q : Q p ps') (S : GSt B φ' ps' s') (r : VR φ' s'.heap p v) (x : Ext (fun _ => False) φ φ' h s'.heap) : GPost B φ h Q v s'

abbrev NoE : Value → Shared → Prop := fun _ _ => False

def AE (C : Ctx) (n : Nat) (e : Expr) (m : List (Option PV)) (ps : List PO) (Q : PV → List PO → Prop) : Prop :=
  ∀ A φ s, Room n A → St C φ m ps s → wpAny (model C.prog C.w) A (eval e C.env) (Post C φ m s.heap Q) NoE s
def AB (C : Ctx) (n : Nat) (e : Expr) (m : List (Option PV)) (ps : List PO) (Q : Bool → List PO → Prop) : Prop :=
  ∀ A φ s, Room n A → St C φ m ps s → wpAny (model C.prog C.w) A (isTrue e C.env (eval e C.env)) (PostB C φ m s.heap Q) NoE s
def AL (C : Ctx) (n : Nat) (es : List Expr) (m : List (Option PV)) (ps : List PO) (Q : List PV → List PO → Prop) : Prop :=
  ∀ A φ s pos, Room n A → St C φ m ps s → wpAny (model C.prog C.w) A (spliced (backTo pos (starEach es C.env))) (PostL C φ m s.heap Q) NoE s
def AS (C : Ctx) (n : Nat) (e : Stmt) (m : List (Option PV)) (ps : List PO) (Q : AF → List (Option PV) → List PO → Prop) : Prop :=
  ∀ A φ s, Room n A → St C φ m ps s → wpAny (model C.prog C.w) A (exec e C.env) (PostS C φ s.heap Q) NoE s
def ASs (C : Ctx) (n : Nat) (e : List Stmt) (m : List (Option PV)) (ps : List PO) (Q : AF → List (Option PV) → List PO → Prop) : Prop :=
  ∀ A φ s, Room n A → St C φ m ps s → wpAny (model C.prog C.w) A (execs e C.env) (PostS C φ s.heap Q) NoE s
/-- a store of a value into a target -/
def AT (C : Ctx) (n : Nat) (t : Expr) (p : PV) (m : List (Option PV)) (ps : List PO) (Q : List (Option PV) → List PO → Prop) : Prop :=
  ∀ A φ s v, Room n A → St C φ m ps s → VR φ s.heap p v → wpAny (model C.prog C.w) A (assign t C.env v) (fun _ => PostU C φ s.heap Q) NoE s
/-- an operation on one or two values -/
def AO1 (C : Ctx) (n : Nat) (t : Value → Sem Value) (p : PV) (m : List (Option PV)) (ps : List PO) (Q : PV → List PO → Prop) : Prop :=
  ∀ A φ s v, Room n A → St C φ m ps s → VR φ s.heap p v → wpAny (model C.prog C.w) A (t v) (Post C φ m s.heap Q) NoE s
def AO2 (C : Ctx) (n : Nat) (t : Value → Value → Sem Value) (p q : PV) (m : List (Option PV)) (ps : List PO) (Q : PV → List PO → Prop) : Prop :=
  ∀ A φ s v u, Room n A → St C φ m ps s → VR φ s.heap p v → VR φ s.heap q u → wpAny (model C.prog C.w) A (t v u) (Post C φ m s.heap Q) NoE s
/-- a call of a def -/
def FC (B : Base) (n : Nat) (f : Addr) (args : List PV) (ps : List PO) (Q : PV → List PO → Prop) : Prop :=
  ∀ A φ s vs, Room n A → GSt B φ ps s → VRs φ s.heap args vs → codeAny (model B.prog B.w) A (.call (.ref f) ⟨vs, []⟩) (fun r s' => ∃ v, r = .ok (.ret v) ∧ GPost B φ s.heap Q v s') s
/-- a call of a built-in (or a type) with plain arguments -/
def BC (C : Ctx) (n : Nat) (f : Value) (args : List PV) (m : List (Option PV)) (ps : List PO) (Q : PV → List PO → Prop) : Prop :=
  ∀ A φ s vs, Room n A → St C φ m ps s → VRs φ s.heap args vs → wpAny (model C.prog C.w) A (call f vs) (Post C φ m s.heap Q) NoE s

variable {C : Ctx} {n : Nat} {φ φ' : List Addr} {m : List (Option PV)} {ps : List PO} {s : Shared} {h h' : Heap}

theorem Post.ext {Q : PV → List PO → Prop} {v : Value} {s' : Shared} (x : Ext C.W φ φ' h h') (r : Post C φ' m h' Q v s') : Post C φ m h Q v s' :=
  let ⟨a, b, c, d, e, f, g⟩ := r; ⟨a, b, c, d, e, f, x.trans g⟩
theorem PostB.ext {Q : Bool → List PO → Prop} {v : Bool} {s' : Shared} (x : Ext C.W φ φ' h h') (r : PostB C φ' m h' Q v s') : PostB C φ m h Q v s' :=
  let ⟨a, c, d, e, g⟩ := r; ⟨a, c, d, e, x.trans g⟩
theorem PostS.ext {Q : AF → List (Option PV) → List PO → Prop} {v : Flow} {s' : Shared} (x : Ext C.W φ φ' h h') (r : PostS C φ' h' Q v s') : PostS C φ h Q v s' :=
  let ⟨a, b, c, d, e, f, i, g⟩ := r; ⟨a, b, c, d, e, f, i, x.trans g⟩
theorem Post.now {Q : PV → List PO → Prop} {p : PV} {v : Value} (S : St C φ m ps s) (t : Nat) (r : VR φ s.heap p v) (q : Q p ps) : Post C φ m s.heap Q v { s with toks := t } :=
  ⟨φ, p, ps, q, S.tok t, r, Ext.refl⟩
theorem Post.here {Q : PV → List PO → Prop} {p : PV} {v : Value} (S : St C φ m ps s) (r : VR φ s.heap p v) (q : Q p ps) : Post C φ m s.heap Q v s :=
  ⟨φ, p, ps, q, S, r, Ext.refl⟩
theorem PostB.here {Q : Bool → List PO → Prop} {b : Bool} (S : St C φ m ps s) (q : Q b ps) : PostB C φ m s.heap Q b s := ⟨φ, ps, q, S, Ext.refl⟩

theorem noE {P : Value → Shared → Prop} : ∀ e s, NoE e s → P e s := fun _ _ h => h.elim

/-! ### monotony -/
theorem AE.mono {e : Expr} {Q Q' : PV → List PO → Prop} (h : AE C n e m ps Q) (hQ : ∀ p ps, Q p ps → Q' p ps) : AE C n e m ps Q' :=
  fun A φ s r S => wpAny_mono (h A φ s r S) (fun v s' ⟨a, b, c, d, e, f, g⟩ => ⟨a, b, c, hQ _ _ d, e, f, g⟩) noE
theorem AB.mono {e : Expr} {Q Q' : Bool → List PO → Prop} (h : AB C n e m ps Q) (hQ : ∀ p ps, Q p ps → Q' p ps) : AB C n e m ps Q' :=
  fun A φ s r S => wpAny_mono (h A φ s r S) (fun v s' ⟨a, b, c, d, e⟩ => ⟨a, b, hQ _ _ c, d, e⟩) noE
/-! ### names -/
def ixOf (x : Str) : List (Str × Slot) → Nat
  | [] => 0
  | y :: r => if y.1 = x then 0 else ixOf x r + 1
def slotAt (C : Ctx) (x : Str) : Option (Str × Slot) := C.D[ixOf x C.D]?
def lk (C : Ctx) (m : List (Option PV)) (x : Str) : Option PV := (m[ixOf x C.D]?).join
def upd (C : Ctx) (m : List (Option PV)) (x : Str) (p : PV) : List (Option PV) := m.set (ixOf x C.D) (some p)

theorem ixOf_spec : ∀ {D : List (Str × Slot)} {x : Str} {y : Str × Slot}, D[ixOf x D]? = some y → y.1 = x
  | [], x, y, e => by simp at e
  | z :: r, x, y, e => by
    unfold ixOf at e
    by_cases hz : z.1 = x
    · rw [if_pos hz] at e; simp at e; rw [← e]; exact hz
    · rw [if_neg hz] at e
      exact ixOf_spec (D := r) (by simpa using e)

theorem AE_name {x : Str} {pos : Pos} {p : PV} {Q : PV → List PO → Prop} (hv : lk C m x = some p) (q : Q p ps)
    (hd : (x == ("__debug__" : Str)) = false := by decide) (hc : (x == ("__classdict__" : Str)) = false := by decide) : AE C n (.Name x pos) m ps Q := by
  intro A φ s r S
  refine wpAny_Name ?_ hd
  obtain ⟨ml, hn, hs⟩ := S.loc
  unfold lk at hv
  cases hm : m[ixOf x C.D]? with
  | none => rw [hm] at hv; cases hv
  | some ov =>
    rw [hm] at hv
    have : ov = some p := hv
    subst this
    have hlt : ixOf x C.D < C.D.length := by rw [← S.mlen]; exact (List.getElem?_eq_some_iff.mp hm).1
    have hy := List.getElem?_eq_getElem hlt
    generalize C.D[ixOf x C.D] = y at hy
    have hr := hs _ y _ hy hm
    have hst := S.ok.stat y (List.mem_of_getElem? hy)
    have hx := ixOf_spec hy
    obtain ⟨x', sl⟩ := y
    have hx' : x' = x := hx
    subst hx'
    cases sl with
    | loc =>
      obtain ⟨v, h1, h2⟩ := hr
      exact wpAny_loadName_local S.ok.kind hst hn h1 (Post.here S h2 q)
    | own c =>
      obtain ⟨v, h1, h2⟩ := hr
      exact wpAny_loadName_cell S.ok.kind hst.1 hst.2.1 h1 (Post.here S h2 q)
    | cap c =>
      obtain ⟨v, h1, h2⟩ := hr
      rcases hst.1 with hk | hk
      · exact wpAny_loadName_cell S.ok.kind hk hst.2.1 h1 (Post.here S h2 q)
      · exact wpAny_loadName_free S.ok.kind hk hst.2.1 h1 (Post.here S h2 q) hc

theorem wpAny_store {x : Str} {p : PV} {A : Around} {v : Value} {Q : Unit → Shared → Prop} (S : St C φ m ps s) (hv : VR φ s.heap p v) {y : Str × Slot} (hy : slotAt C x = some y) (hw : ∀ c, y.2 ≠ .cap c)
    (h : ∀ h' t, St C φ (upd C m x p) ps { s with heap := h', toks := t } → Ext C.W φ φ s.heap h' → Q () { s with heap := h', toks := t }) :
    wpAny (model C.prog C.w) A (storeName C.env x v) Q NoE s := by
  unfold slotAt at hy
  have hx := ixOf_spec hy
  have hst := S.ok.stat y (List.mem_of_getElem? hy)
  obtain ⟨ml, hn, hs⟩ := S.loc
  obtain ⟨x', sl⟩ := y
  have hx' : x' = x := hx
  subst hx'
  have hlt : ixOf x' C.D < m.length := by rw [S.mlen]; exact (List.getElem?_eq_some_iff.mp hy).1
  have upos : ∀ i ov, (upd C m x' p)[i]? = some ov → (i = ixOf x' C.D ∧ ov = some p) ∨ (i ≠ ixOf x' C.D ∧ m[i]? = some ov) := by
    intro i ov e
    unfold upd at e
    by_cases hi : ixOf x' C.D = i
    · subst hi
      rw [List.getElem?_set_self hlt] at e
      cases e; exact .inl ⟨rfl, rfl⟩
    · rw [List.getElem?_set_ne hi] at e
      exact .inr ⟨fun e' => hi e'.symm, e⟩
  cases sl with
  | cap c => exact absurd rfl (hw c)
  | loc =>
    refine wpAny_storeName_local hst hn (fun h' hn' hs' => ?_) (by rw [S.ok.kind]; rfl)
    have x : Ext C.W φ φ s.heap h' := ⟨⟨⟨[], by simp, by simp⟩, fun b o e _ hW => (hs'.2 b fun e' => hW (.inl e')).trans e⟩, SameBut.dom hs' fun _ => let ⟨o, _, _, e, _⟩ := hn'; ⟨o, e⟩⟩
    refine h h' _ ?_ x
    have hLφ := S.off _ (.inl rfl)
    refine ⟨S.ok, fun b o e => (hs'.2 b fun e' => ?_).trans (S.base b o e), S.new, S.nd, S.len, fun k a po ha hp => OR.move x.toMv S.noSeq (fun o e => (hs'.2 a fun e' => ?_).trans e) (S.objs k a po ha hp), S.off, ?_, ?_, S.gens, S.os, S.mod, S.lim⟩
    · subst e'; rw [S.new _ (.inr (.inl rfl))] at e; cases e
    · subst e'; exact hLφ (List.mem_of_getElem? ha)
    · refine ⟨_, hn', fun i z ov hz hov => ?_⟩
      rcases upos i ov hov with ⟨rfl, rfl⟩ | ⟨hi, hov⟩
      · rw [hy] at hz; cases hz
        exact ⟨v, by simp, VR.ext x.toMv S.noSeq hv⟩
      · have hzx : z.1 ≠ x' := fun e => hi ((List.getElem?_inj (l := C.D.map (·.1)) (by rw [List.length_map]; exact (List.getElem?_eq_some_iff.mp hz).1) S.ok.names).mp (by rw [List.getElem?_map, List.getElem?_map, hz, hy]; simp [e]))
        have hr := hs i z ov hz hov
        have hr' : SlotR φ s.heap (fun y => if y = x' then some v else ml y) z ov := by
          unfold SlotR at hr ⊢
          cases hc : z.2.cell? with
          | none => rw [hc] at hr; cases ov with
            | none => trivial
            | some q => simpa [hzx] using hr
          | some c => rw [hc] at hr; exact hr
        refine SlotR.move x.toMv S.noSeq (fun c u hc hu => ?_) hr'
        obtain ⟨oc, hoc, hd⟩ := hu
        refine ⟨oc, (hs'.2 c ?_).trans hoc, hd⟩
        have := S.ok.stat z (List.mem_of_getElem? hz)
        obtain ⟨z1, z2⟩ := z
        cases z2 with
        | loc => cases hc
        | own c' => cases hc; exact this.2.2
        | cap c' => cases hc; exact this.2.2
    · show (m.set _ _).length = _; rw [List.length_set]; exact S.mlen
  | own c =>
    have hcell : C.Cell c := ⟨_, List.mem_of_getElem? hy, rfl⟩
    obtain ⟨v₀, hc₀⟩ := S.cell hcell
    refine wpAny_storeName_cell S.ok.kind hst.1 hst.2.1 hc₀ (fun h' hc' hs' => ?_)
    have x : Ext C.W φ φ s.heap h' := ⟨⟨⟨[], by simp, by simp⟩, fun b o e _ hW => (hs'.2 b fun e' => hW (.inr ⟨x', e' ▸ List.mem_of_getElem? hy⟩)).trans e⟩, SameBut.dom hs' fun _ => let ⟨o, e, _⟩ := hc'; ⟨o, e⟩⟩
    refine h h' s.toks ?_ x
    have hLφ := S.off _ (.inr hcell)
    refine ⟨S.ok, fun b o e => (hs'.2 b fun e' => ?_).trans (S.base b o e), S.new, S.nd, S.len, fun k a po ha hp => OR.move x.toMv S.noSeq (fun o e => (hs'.2 a fun e' => ?_).trans e) (S.objs k a po ha hp), S.off, ?_, ?_, S.gens, S.os, S.mod, S.lim⟩
    · subst e'; rw [S.new _ (.inr (.inr ⟨x', List.mem_of_getElem? hy⟩))] at e; cases e
    · subst e'; exact hLφ (List.mem_of_getElem? ha)
    · refine ⟨ml, hn.sameBut hs' (Ne.symm hst.2.2), fun i z ov hz hov => ?_⟩
      rcases upos i ov hov with ⟨rfl, rfl⟩ | ⟨hi, hov⟩
      · rw [hy] at hz; cases hz
        exact ⟨v, hc', VR.ext x.toMv S.noSeq hv⟩
      · have hr := hs i z ov hz hov
        refine SlotR.move x.toMv S.noSeq (fun c₁ u hc hu => ?_) hr
        refine hu.sameBut hs' fun e => hi ?_
        subst e
        have e1 := S.ok.apart z (x', .own c₁) c₁ (List.mem_of_getElem? hz) (List.mem_of_getElem? hy) hc rfl
        subst e1
        refine (List.getElem?_inj (l := C.D.map (·.1)) (by rw [List.length_map]; exact (List.getElem?_eq_some_iff.mp hz).1) S.ok.names).mp (by rw [List.getElem?_map, List.getElem?_map, hz, hy])
    · show (m.set _ _).length = _; rw [List.length_set]; exact S.mlen

theorem AT_name {x : Str} {pos : Pos} {p : PV} {Q : List (Option PV) → List PO → Prop} {y : Str × Slot} (hy : slotAt C x = some y) (q : Q (upd C m x p) ps) (hw : ∀ c, y.2 ≠ .cap c := by intro c h; cases h) : AT C n (.Name x pos) p m ps Q :=
  fun A φ s v r S hv => wpAny_assign_Name (wpAny_store S hv hy hw fun h' t S' x => ⟨φ, _, ps, q, S', x⟩)

/-! ### constants -/
theorem AE_int {i : Int} {k : Nat} {pos : Pos} {Q : PV → List PO → Prop} (q : Q (.int i) ps) : AE C n (.Constant (.int i) k pos) m ps Q :=
  fun A φ s r S => wpAny_Constant_int (Post.now S _ vr_int q)
theorem AE_str {i : Str} {k : Nat} {pos : Pos} {Q : PV → List PO → Prop} (q : Q (.str i) ps) : AE C n (.Constant (.str i) k pos) m ps Q :=
  fun A φ s r S => wpAny_Constant_str (Post.now S _ vr_str q)
theorem AE_none {k : Nat} {pos : Pos} {Q : PV → List PO → Prop} (q : Q .none ps) : AE C n (.Constant .none k pos) m ps Q :=
  fun A φ s r S => wpAny_Constant_none (Post.here S vr_none q)
theorem AE_bool {b : Bool} {k : Nat} {pos : Pos} {Q : PV → List PO → Prop} (q : Q (.bool b) ps) : AE C n (.Constant (.bool b) k pos) m ps Q :=
  fun A φ s r S => wpAny_Constant_bool (Post.here S vr_bool q)

/-! ### operations -/
theorem wp_two {e₁ e₂ : Expr} {Q : PV → List PO → Prop} {f : Value → Value → Sem Value} {A : Around} (R : Room n A) (S : St C φ m ps s)
    (h : AE C n e₁ m ps fun p ps₁ => AE C n e₂ m ps₁ fun q ps₂ => AO2 C n f p q m ps₂ Q) :
    wpAny (model C.prog C.w) A (eval e₁ C.env) (fun a s₁ => wpAny (model C.prog C.w) A (eval e₂ C.env) (fun b s₂ => wpAny (model C.prog C.w) A (f a b) (Post C φ m s.heap Q) NoE s₂) NoE s₁) NoE s :=
  wpAny_mono (h A φ s R S) (fun a s₁ ⟨φ₁, p, ps₁, h₁, S₁, v₁, x₁⟩ => wpAny_mono (h₁ A φ₁ s₁ R S₁) (fun b s₂ ⟨φ₂, q, ps₂, h₂, S₂, v₂, x₂⟩ =>
    wpAny_mono (h₂ A φ₂ s₂ a b R S₂ (S₁.vr x₂ v₁) v₂) (fun c s₃ r => (r.ext x₂).ext x₁) noE) noE) noE

theorem AE_binop {l r : Expr} {op : Operator} {pos : Pos} {Q : PV → List PO → Prop}
    (h : AE C n l m ps fun p ps₁ => AE C n r m ps₁ fun q ps₂ => AO2 C n (binaryOp op) p q m ps₂ Q) : AE C n (.BinOp l op r pos) m ps Q :=
  fun A φ s R S => wpAny_BinOp (wp_two R S h)
theorem AB_compare {l r : Expr} {op : CmpOp} {pos : Pos} {Q : Bool → List PO → Prop}
    (h : AE C n l m ps fun p ps₁ => AE C n r m ps₁ fun q ps₂ => AO2 C n (compareOp op) p q m ps₂ fun c ps₃ => ∃ b, c = .bool b ∧ Q b ps₃)
    (hm : behindInMarks op r = false := by with_unfolding_all rfl) : AB C n (.Compare l [op] [r] pos) m ps Q :=
  fun A φ s R S => wpAny_isTrue_Compare1 (wpAny_mono (wp_two R S h) (fun a s₁ h₁ => wpAny_mono h₁ (fun b s₂ h₂ => wpAny_mono h₂ (fun c s₃ ⟨φ', p, ps', ⟨b, e, q⟩, S', v, x⟩ => by
    subst e
    rw [VR.bool_inv v]
    exact wpAny_truthy_bool ⟨φ', ps', q, S', x⟩) noE) noE) noE) hm

theorem AO2_int {f : Value → Value → Sem Value} {i j k : Int} {Q : PV → List PO → Prop} (q : Q (.int k) ps)
    (hf : ∀ (A : Around) (s : Shared) (t u : Tok) (Q : Value → Shared → Prop), Q (.int k s.toks) { s with toks := s.toks + 1 } → wpAny (model C.prog C.w) A (f (.int i t) (.int j u)) Q NoE s) :
    AO2 C n f (.int i) (.int j) m ps Q := by
  intro A φ s v u R S hv hu
  obtain ⟨t, rfl⟩ := VR.int_inv hv
  obtain ⟨t', rfl⟩ := VR.int_inv hu
  exact hf A s t t' _ (Post.now S _ vr_int q)
theorem AO2_intb {f : Value → Value → Sem Value} {i j : Int} {b : Bool} {Q : PV → List PO → Prop} (q : Q (.bool b) ps)
    (hf : ∀ (A : Around) (s : Shared) (t u : Tok) (Q : Value → Shared → Prop), Q (.bool b) s → wpAny (model C.prog C.w) A (f (.int i t) (.int j u)) Q NoE s) :
    AO2 C n f (.int i) (.int j) m ps Q := by
  intro A φ s v u R S hv hu
  obtain ⟨t, rfl⟩ := VR.int_inv hv
  obtain ⟨t', rfl⟩ := VR.int_inv hu
  exact hf A s t t' _ (Post.here S vr_bool q)

theorem AO_add {i j : Int} {Q : PV → List PO → Prop} (q : Q (.int (i + j)) ps) : AO2 C n (binaryOp .Add) (.int i) (.int j) m ps Q :=
  AO2_int q fun _ _ _ _ _ h => P.add_int h
theorem AO_sub {i j : Int} {Q : PV → List PO → Prop} (q : Q (.int (i - j)) ps) : AO2 C n (binaryOp .Sub) (.int i) (.int j) m ps Q :=
  AO2_int q fun _ _ _ _ _ h => P.sub_int h
theorem AO_mod {i j : Int} {Q : PV → List PO → Prop} (hj : j ≠ 0) (q : Q (.int (i.fmod j)) ps) : AO2 C n (binaryOp .Mod) (.int i) (.int j) m ps Q :=
  AO2_int q fun _ _ _ _ _ h => PyProof.Rows.mod_int' hj h
theorem AO_div {i j : Int} {Q : PV → List PO → Prop} (hj : j ≠ 0) (hp : Builtin.divisionGoesByPylong i j = false) (q : Q (.int (i.fdiv j)) ps) : AO2 C n (binaryOp .FloorDiv) (.int i) (.int j) m ps Q :=
  AO2_int q fun _ _ _ _ _ h => PyProof.Rows.floordiv_int hj h (.inl hp)
theorem AO_mul {i j : Int} {Q : PV → List PO → Prop} (hm : IntMulOk i j) (q : Q (.int (i * j)) ps) : AO2 C n (binaryOp .Mult) (.int i) (.int j) m ps Q :=
  AO2_int q fun _ _ _ _ _ h => P.mul_int h hm
theorem AO_pow {i j : Int} {Q : PV → List PO → Prop} (h0 : 0 ≤ j) (h1 : j ≤ 1000000) (hi : i.natAbs < 2 ^ 64) (q : Q (.int (i ^ j.toNat)) ps) : AO2 C n (binaryOp .Pow) (.int i) (.int j) m ps Q :=
  AO2_int q fun _ _ _ _ _ h => PyProof.Rows.pow_int_small h0 h1 hi h
theorem AO_iadd {i j : Int} {Q : PV → List PO → Prop} (q : Q (.int (i + j)) ps) : AO2 C n (inplaceOp .Add) (.int i) (.int j) m ps Q :=
  AO2_int q fun _ _ _ _ _ h => P.iadd_int h
theorem AO_lt {i j : Int} {Q : PV → List PO → Prop} (q : Q (.bool (decide (i < j))) ps) : AO2 C n (compareOp .Lt) (.int i) (.int j) m ps Q :=
  AO2_intb q fun _ _ _ _ _ h => P.lt_int h
theorem AO_le {i j : Int} {Q : PV → List PO → Prop} (q : Q (.bool (decide (i ≤ j))) ps) : AO2 C n (compareOp .LtE) (.int i) (.int j) m ps Q :=
  AO2_intb q fun _ _ _ _ _ h => P.le_int h
theorem AO_gt {i j : Int} {Q : PV → List PO → Prop} (q : Q (.bool (decide (i > j))) ps) : AO2 C n (compareOp .Gt) (.int i) (.int j) m ps Q :=
  AO2_intb q fun _ _ _ _ _ h => P.gt_int h
theorem AO_eq {i j : Int} {Q : PV → List PO → Prop} (q : Q (.bool (i == j)) ps) : AO2 C n (compareOp .Eq) (.int i) (.int j) m ps Q :=
  AO2_intb q fun _ _ _ _ _ h => P.eq_int h
theorem AO_ne {i j : Int} {Q : PV → List PO → Prop} (q : Q (.bool (i != j)) ps) : AO2 C n (compareOp .NotEq) (.int i) (.int j) m ps Q :=
  AO2_intb q fun _ _ _ _ _ h => P.ne_int h
def PV.isNone : PV → Bool
  | .none => true
  | _ => false
theorem VR.isNone {φ : List Addr} {h : Heap} {p : PV} {v : Value} (r : VR φ h p v) : (v == .none) = p.isNone := by
  cases p with
  | none => rw [VR.none_inv r]; rfl
  | bool b => rw [VR.bool_inv r]; rfl
  | int i => obtain ⟨t, rfl⟩ := VR.int_inv r; rfl
  | str i => obtain ⟨t, rfl⟩ := VR.str_inv r; rfl
  | tup l => obtain ⟨a, _, _, rfl, _⟩ := VR.tup_inv r; rfl
  | lst l => obtain ⟨a, _, rfl, _⟩ := VR.lst_inv r; rfl
  | obj k => obtain ⟨a, _, rfl⟩ := VR.obj_inv r; rfl
theorem AO_isNone {p : PV} {Q : PV → List PO → Prop} (q : Q (.bool p.isNone) ps) : AO2 C n (compareOp .Is) p .none m ps Q := by
  intro A φ s v u R S hv hu
  rw [VR.none_inv hu]
  refine is_none ?_
  rw [hv.isNone]
  exact Post.here S vr_bool q
theorem AO_isNotNone {p : PV} {Q : PV → List PO → Prop} (q : Q (.bool (!p.isNone)) ps) : AO2 C n (compareOp .IsNot) p .none m ps Q := by
  intro A φ s v u R S hv hu
  rw [VR.none_inv hu]
  refine isNot_none ?_
  rw [hv.isNone]
  exact Post.here S vr_bool q

/-! ### tests -/
def AAll (C : Ctx) (n : Nat) (op : BoolOp) (es : List Expr) (m : List (Option PV)) (ps : List PO) (Q : Bool → List PO → Prop) : Prop :=
  ∀ A φ s, Room n A → St C φ m ps s → wpAny (model C.prog C.w) A (allTrue op es C.env) (PostB C φ m s.heap Q) NoE s
theorem AB_bool {op : BoolOp} {es : List Expr} {pos : Pos} {Q : Bool → List PO → Prop} (h : AAll C n op es m ps Q) : AB C n (.BoolOp op es pos) m ps Q :=
  fun A φ s R S => wpAny_isTrue_BoolOp (h A φ s R S)
theorem AAll_and_nil {Q : Bool → List PO → Prop} (q : Q true ps) : AAll C n .And [] m ps Q := fun A φ s R S => wpAny_allTrue_And_nil (PostB.here S q)
theorem AAll_or_nil {Q : Bool → List PO → Prop} (q : Q false ps) : AAll C n .Or [] m ps Q := fun A φ s R S => wpAny_allTrue_Or_nil (PostB.here S q)
theorem AAll_and {x : Expr} {es : List Expr} {Q : Bool → List PO → Prop} (h : AB C n x m ps fun b ps₁ => (b = false → Q false ps₁) ∧ (b = true → AAll C n .And es m ps₁ Q)) : AAll C n .And (x :: es) m ps Q := by
  intro A φ s R S
  refine wpAny_allTrue_And_cons (wpAny_mono (h A φ s R S) (fun b s' ⟨φ', ps', ⟨q0, q1⟩, S', x'⟩ => ?_) noE)
  cases b with
  | false => exact ⟨φ', ps', q0 rfl, S', x'⟩
  | true => exact wpAny_mono (q1 rfl A φ' s' R S') (fun b s'' r => r.ext x') noE
theorem AAll_or {x : Expr} {es : List Expr} {Q : Bool → List PO → Prop} (h : AB C n x m ps fun b ps₁ => (b = true → Q true ps₁) ∧ (b = false → AAll C n .Or es m ps₁ Q)) : AAll C n .Or (x :: es) m ps Q := by
  intro A φ s R S
  refine wpAny_allTrue_Or_cons (wpAny_mono (h A φ s R S) (fun b s' ⟨φ', ps', ⟨q0, q1⟩, S', x'⟩ => ?_) noE)
  cases b with
  | true => exact ⟨φ', ps', q0 rfl, S', x'⟩
  | false => exact wpAny_mono (q1 rfl A φ' s' R S') (fun b s'' r => r.ext x') noE
theorem AE_ifexp {t b o : Expr} {pos : Pos} {Q : PV → List PO → Prop} (h : AB C n t m ps fun c ps₁ => (c = true → AE C n b m ps₁ Q) ∧ (c = false → AE C n o m ps₁ Q)) : AE C n (.IfExp t b o pos) m ps Q := by
  intro A φ s R S
  refine wpAny_IfExp (wpAny_mono (h A φ s R S) (fun c s' ⟨φ', ps', ⟨q0, q1⟩, S', x'⟩ => ?_) noE)
  cases c with
  | true => simp only [if_true]; exact wpAny_mono (q0 rfl A φ' s' R S') (fun b s'' r => r.ext x') noE
  | false => simp only [Bool.false_eq_true, if_false]; exact wpAny_mono (q1 rfl A φ' s' R S') (fun b s'' r => r.ext x') noE

/-! ### statements -/
theorem ASs_nil {Q : AF → List (Option PV) → List PO → Prop} (q : Q .next m ps) : ASs C n [] m ps Q :=
  fun A φ s R S => wpAny_execs_nil ⟨φ, .next, m, ps, q, S, rfl, Ext.refl⟩
theorem ASs_cons {st : Stmt} {rest : List Stmt} {Q : AF → List (Option PV) → List PO → Prop}
    (h : AS C n st m ps fun a m₁ ps₁ => match a with | .next => ASs C n rest m₁ ps₁ Q | a => Q a m₁ ps₁) : ASs C n (st :: rest) m ps Q := by
  intro A φ s R S
  refine wpAny_execs_cons (wpAny_mono (h A φ s R S) (fun f s₁ ⟨φ₁, a, m₁, ps₁, q, S₁, hf, x₁⟩ => ?_) noE)
  cases a with
  | next => rw [show f = .next from hf]; exact wpAny_mono (q A φ₁ s₁ R S₁) (fun f s₂ r => r.ext x₁) noE
  | brk => rw [show f = .brk from hf]; exact ⟨φ₁, .brk, m₁, ps₁, q, S₁, rfl, x₁⟩
  | cont => rw [show f = .cont from hf]; exact ⟨φ₁, .cont, m₁, ps₁, q, S₁, rfl, x₁⟩
  | ret p => obtain ⟨v, rfl, hv⟩ := hf; exact ⟨φ₁, .ret p, m₁, ps₁, q, S₁, ⟨v, rfl, hv⟩, x₁⟩
theorem AS_if {t : Expr} {b o : List Stmt} {pos : Pos} {Q : AF → List (Option PV) → List PO → Prop}
    (h : AB C n t m ps fun c ps₁ => (c = true → ASs C n b m ps₁ Q) ∧ (c = false → ASs C n o m ps₁ Q)) : AS C n (.If t b o pos) m ps Q := by
  intro A φ s R S
  refine wpAny_If (wpAny_mono (h A φ s R S) (fun c s' ⟨φ', ps', ⟨q0, q1⟩, S', x'⟩ => ?_) noE)
  cases c with
  | true => simp only [if_true]; exact wpAny_mono (q0 rfl A φ' s' R S') (fun b s'' r => r.ext x') noE
  | false => simp only [Bool.false_eq_true, if_false]; exact wpAny_mono (q1 rfl A φ' s' R S') (fun b s'' r => r.ext x') noE
theorem AS_return {e : Expr} {pos : Pos} {Q : AF → List (Option PV) → List PO → Prop} (h : AE C n e m ps fun p ps₁ => Q (.ret p) m ps₁) : AS C n (.Return (some e) pos) m ps Q :=
  fun A φ s R S => wpAny_Return_some (wpAny_mono (h A φ s R S) (fun v s' ⟨φ', p, ps', q, S', hv, x⟩ => ⟨φ', .ret p, m, ps', q, S', ⟨v, rfl, hv⟩, x⟩) noE)
theorem AS_assign {x : Str} {p' pos : Pos} {e : Expr} {Q : AF → List (Option PV) → List PO → Prop} {y : Str × Slot} (hs : swapsWith e (some (.Name x p')) pos.line C.env = pure false) (hy : slotAt C x = some y)
    (h : AE C n e m ps fun p ps₁ => Q .next (upd C m x p) ps₁) (hw : ∀ c, y.2 ≠ .cap c := by intro c h; cases h) : AS C n (.Assign [.Name x p'] e pos) m ps Q :=
  fun A φ s R S => wpAny_Assign_Name (wpAny_mono (h A φ s R S) (fun v s' ⟨φ', p, ps', q, S', hv, x'⟩ => wpAny_store S' hv hy hw fun h' t S'' x'' => ⟨φ', .next, _, ps', q, S'', rfl, x'.trans x''⟩) noE) hs
theorem AS_expr {e : Expr} {pos : Pos} {Q : AF → List (Option PV) → List PO → Prop} (h : AE C n e m ps fun p ps₁ => (p = .none ∨ ∃ b, p = .bool b) ∧ Q .next m ps₁)
    (hs : swapsWith e none pos.line C.env = pure false) : AS C n (.Expr e pos) m ps Q := by
  intro A φ s R S
  refine wpAny_Expr (wpAny_mono (h A φ s R S) (fun v s' ⟨φ', p, ps', ⟨hp, q⟩, S', hv, x⟩ => ?_) noE) (by simp [interactive, S.ok.kind]) hs
  rcases hp with rfl | ⟨b, rfl⟩
  · rw [VR.none_inv hv]; exact ⟨φ', .next, m, ps', q, S', rfl, x⟩
  · rw [VR.bool_inv hv]; exact ⟨φ', .next, m, ps', q, S', rfl, x⟩

/-- a while by an invariant and a measure -/
theorem AS_while {t : Expr} {b : List Stmt} {pos : Pos} {Q : AF → List (Option PV) → List PO → Prop} (I : Nat → List (Option PV) → List PO → Prop) (k : Nat) (h0 : I k m ps)
    (step : ∀ k m ps, I k m ps → AB C n t m ps fun c ps₁ => (c = false → Q .next m ps₁) ∧ (c = true → ASs C n b m ps₁ fun a m₂ ps₂ => match a with
      | .next | .cont => ∃ j, j < k ∧ I j m₂ ps₂
      | .brk => Q .next m₂ ps₂
      | .ret p => Q (.ret p) m₂ ps₂)) : AS C n (.While t b [] pos) m ps Q := by
  intro A φ s R S
  refine wpAny_While (codeAny_mono (codeAny_whileLoop (fun k s' => ∃ φ' m' ps', I k m' ps' ∧ St C φ' m' ps' s' ∧ Ext C.W φ φ' s.heap s'.heap) (R := fun r s' => match r with | .ok f => PostS C φ s.heap Q f s' | .error _ => False) ?_ k ⟨φ, m, ps, h0, S, Ext.refl⟩) ?_)
  · rintro k s' ⟨φ', m', ps', hI, S', x'⟩
    refine wpAny_mono (step k m' ps' hI _ φ' s' (by exact R) S') (fun c s₂ ⟨φ₂, ps₂, ⟨q0, q1⟩, S₂, x₂⟩ => ?_) noE
    cases c with
    | false =>
      simp only [Bool.false_eq_true, if_false]
      exact wpAny_execs_nil ⟨φ₂, .next, m', ps₂, q0 rfl, S₂, rfl, x'.trans x₂⟩
    | true =>
      simp only [if_true]
      refine wpAny_mono (q1 rfl _ φ₂ s₂ (by exact R) S₂) (fun f s₃ ⟨φ₃, a, m₃, ps₃, q, S₃, hf, x₃⟩ => ?_) noE
      have xx := (x'.trans x₂).trans x₃
      cases a with
      | next => rw [show f = .next from hf]; obtain ⟨j, hj, hI'⟩ := q; exact ⟨j, hj, φ₃, m₃, ps₃, hI', S₃, xx⟩
      | cont => rw [show f = .cont from hf]; obtain ⟨j, hj, hI'⟩ := q; exact ⟨j, hj, φ₃, m₃, ps₃, hI', S₃, xx⟩
      | brk => rw [show f = .brk from hf]; exact ⟨φ₃, .next, m₃, ps₃, q, S₃, rfl, xx⟩
      | ret p => obtain ⟨v, rfl, hv⟩ := hf; exact ⟨φ₃, .ret p, m₃, ps₃, q, S₃, ⟨v, rfl, hv⟩, xx⟩
  · rintro r s' hr
    cases r with
    | ok f => exact hr
    | error e => exact hr.elim
end Mine

namespace Mine
open PySem PySem.Calls PyProof.Rows PySem.W

def layAt (sc : Scope) (L : Addr) (x : Str × NameKind) : Option (Str × Slot) :=
  match x.2 with
  | .local => some (x.1, .loc)
  | .cell => ((cellsFrom (L + 1) sc.names []).lookup x.1).map fun c => (x.1, .own c)
  | _ => none
def layout (sc : Scope) (L : Addr) : List (Str × Slot) := sc.names.filterMap (layAt sc L)
def callCtx (B : Base) (fd : FuncData) (L f : Addr) : Ctx := { toBase := B, env := callEnvC fd L f, D := layout fd.scope L }
def initM (D : List (Str × Slot)) (names : List Str) (pvals : List PV) : List (Option PV) := D.map fun y => (names.zip pvals).lookup y.1

def scopeOk (sc : Scope) : Bool := decide ((sc.names.map (·.1)).Nodup) && decide (sc.kind = .function) && !sc.isCoroutine && !sc.isGenerator

theorem lookup_of_nodup {β : Type} : ∀ {l : List (Str × β)} {x : Str} {k : β}, (l.map (·.1)).Nodup → (x, k) ∈ l → l.lookup x = some k
  | (y, j) :: r, x, k, hn, hm => by
    rw [List.map_cons, List.nodup_cons] at hn
    rw [List.lookup_cons]
    rcases List.mem_cons.mp hm with e | hm
    · cases e; simp
    · have : x ≠ y := fun e => hn.1 (e ▸ List.mem_map_of_mem (f := (·.1)) hm)
      rw [beq_eq_false_iff_ne.mpr this]
      exact lookup_of_nodup hn.2 hm

theorem layout_mem {sc : Scope} {L : Addr} {y : Str × Slot} (h : y ∈ layout sc L) : ∃ k, (y.1, k) ∈ sc.names ∧ layAt sc L (y.1, k) = some y := by
  obtain ⟨⟨x, k⟩, hx, e⟩ := List.mem_filterMap.mp h
  have : y.1 = x := by
    unfold layAt at e
    cases k <;> simp at e
    · rw [← e]
    · obtain ⟨c, _, rfl⟩ := e; rfl
  exact ⟨k, this ▸ hx, this ▸ e⟩
theorem layout_names {sc : Scope} {L : Addr} : ∀ {l : List (Str × NameKind)}, (l.map (·.1)).Nodup → ((l.filterMap (layAt sc L)).map (·.1)).Nodup := by
  intro l
  induction l with
  | nil => intro _; simp
  | cons x r ih =>
    intro hn
    rw [List.map_cons, List.nodup_cons] at hn
    rw [List.filterMap_cons]
    cases hx : layAt sc L x with
    | none => exact ih hn.2
    | some y =>
      rw [List.map_cons, List.nodup_cons]
      refine ⟨fun hm => hn.1 ?_, ih hn.2⟩
      obtain ⟨z, hz, e⟩ := List.mem_map.mp hm
      obtain ⟨x', hx', e'⟩ := List.mem_filterMap.mp hz
      have fst : ∀ {a b}, layAt sc L a = some b → b.1 = a.1 := by
        intro a b e
        unfold layAt at e
        obtain ⟨n, k⟩ := a
        cases k <;> simp at e
        · rw [← e]
        · obtain ⟨c, _, rfl⟩ := e; rfl
      have e'' : z.1 = y.1 := e
      rw [fst e', fst hx] at e''
      rw [← e'']
      exact List.mem_map_of_mem hx'

theorem bindL_at {k : Str → Option NameKind} : ∀ {binds : List (Str × Value)} {m : Str → Option Value} {x : Str}, (binds.map (·.1)).Nodup → k x = some .local → bindL k binds m x = (binds.lookup x).or (m x)
  | [], m, x, _, _ => by simp [bindL]
  | (n, v) :: r, m, x, hn, hk => by
    rw [List.map_cons, List.nodup_cons] at hn
    unfold bindL
    rw [bindL_at hn.2 hk, List.lookup_cons]
    by_cases hx : x = n
    · subst hx
      have : r.lookup x = none := by
        cases hq : r.lookup x with
        | none => rfl
        | some u => exact absurd (List.mem_map_of_mem (f := (·.1)) (mem_of_lookup hq)) hn.1
      simp [this, hk]
    · rw [beq_eq_false_iff_ne.mpr hx]
      cases hq : r.lookup x with
      | some u => simp
      | none =>
        by_cases hkn : k n = some .local
        · simp [hkn, hx]
        · simp [hkn]
theorem bindC_at {k : Str → Option NameKind} : ∀ {binds : List (Str × Value)} {m : Str → Option Value} {x : Str}, (binds.map (·.1)).Nodup → k x ≠ some .local → bindC k binds m x = (binds.lookup x).or (m x)
  | [], m, x, _, _ => by simp [bindC]
  | (n, v) :: r, m, x, hn, hk => by
    rw [List.map_cons, List.nodup_cons] at hn
    unfold bindC
    rw [bindC_at hn.2 hk, List.lookup_cons]
    by_cases hx : x = n
    · subst hx
      have : r.lookup x = none := by
        cases hq : r.lookup x with
        | none => rfl
        | some u => exact absurd (List.mem_map_of_mem (f := (·.1)) (mem_of_lookup hq)) hn.1
      simp [this, hk]
    · rw [beq_eq_false_iff_ne.mpr hx]
      cases hq : r.lookup x with
      | some u => simp
      | none =>
        by_cases hkn : k n = some .local
        · simp [hkn]
        · simp [hkn, hx]

theorem zip_lookup {φ : List Addr} {h : Heap} {x : Str} : ∀ {names : List Str} {pv : List PV} {vs : List Value} {p : PV}, VRs φ h pv vs → (names.zip pv).lookup x = some p → ∃ v, (names.zip vs).lookup x = some v ∧ VR φ h p v
  | [], _, _, _, _, e => by simp at e
  | _ :: _, [], _, _, _, e => by simp at e
  | y :: names, q :: pv, vs, p, r, e => by
    obtain ⟨v, us, rfl, hv, hr⟩ := VRs.cons_inv r
    rw [List.zip_cons_cons, List.lookup_cons] at e ⊢
    cases hb : x == y with
    | true => rw [hb] at e; cases e; exact ⟨v, rfl, hv⟩
    | false => rw [hb] at e; exact zip_lookup hr e
theorem zip_names {β : Type} : ∀ {names : List Str} {vs : List β}, vs.length = names.length → (names.zip vs).map (·.1) = names
  | [], [], _ => rfl
  | x :: r, v :: vs, e => by rw [List.zip_cons_cons, List.map_cons, zip_names (by simpa using e)]
  | [], _ :: _, e => by simp at e
  | _ :: _, [], e => by simp at e

theorem FC_def {B : Base} {n : Nat} {f : Addr} {o : Obj} {fd : FuncData} {body : List Stmt} {args pvals : List PV} {names : List Str} {ps : List PO} {Q : PV → List PO → Prop}
    (ho : B.h0.get? f = some o) (hd : o.data = .func fd) (hlim : B.h0.NoLimit) (hcd : B.h0.CodeRec fd.code fd.qualname) (hbody : fd.body = .stmts body) (hclo : fd.closure = [])
    (hglob : fd.globals = mainGlobals) (hbui : fd.builtins = builtinsNs) (hsc : scopeOk fd.scope = true)
    (hn : names.Nodup) (hlen : pvals.length = names.length) (hkind : (names.all fun y => fd.scope.names.lookup y == some .local || fd.scope.names.lookup y == some .cell) = true)
    (hbind : ∀ φ (s : Shared) vs, (∀ b o, B.h0.get? b = some o → s.heap.get? b = some o) → VRs φ s.heap args vs → ∃ vals, BindsTo s fd ⟨vs, []⟩ (names.zip vals) ∧ VRs φ s.heap pvals vals)
    (h : ∀ L, ASs (callCtx B fd L f) n body (initM (layout fd.scope L) names pvals) ps fun a _ ps' => match a with | .ret p => Q p ps' | _ => Q .none ps') : FC B (n + 1) f args ps Q := by
  intro A φ s vs R G hv
  simp only [scopeOk, Bool.and_eq_true, decide_eq_true_eq, Bool.not_eq_true'] at hsc
  obtain ⟨⟨⟨hnn, hk⟩, hco⟩, hgen⟩ := hsc
  obtain ⟨vals, hb, hvals⟩ := hbind φ s vs G.base hv
  have hvl : vals.length = names.length := hvals.length.trans hlen
  have hkind' : ∀ x ∈ names.zip vals, fd.scope.names.lookup x.1 = some .local ∨ (fd.scope.names.lookup x.1 = some .cell ∧ ((cellsFrom (s.heap.objs.size + 1) fd.scope.names []).lookup x.1).isSome = true) := by
    refine kindsX (List.all_eq_true.mpr fun y hy => ?_) _
    exact List.all_eq_true.mp hkind y.1 (by rw [← zip_names hvl]; exact List.mem_map_of_mem hy)
  refine codeAny_call_function R.depth (G.base _ _ ho) hd hco hgen hbody (hcd.keeps G.base) (hb _ _ _ _ ?_)
  rw [hclo]
  refine wpAny_newFunctionEnv_cells hk hkind' fun env he s' x => ?_
  have he' : env = callEnvC fd s.heap.objs.size f := he
  subst he'
  refine ⟨hlim.keeps fun b o e => x.toInCall.keep b o (G.base b o e), codeAny_func ?_⟩
  have xx : Ext (fun _ => False) φ φ s.heap s'.heap := by
    exact Ext.ofKeep x.toInCall.keep
  have noW : NoSeq (fun _ => False) s.heap := fun b hb => hb.elim
  have out : ∀ a, s.heap.objs.size ≤ a → a ∉ φ := by
    intro a ha hm
    obtain ⟨k, hk⟩ := List.mem_iff_getElem?.mp hm
    have hlt : k < ps.length := by rw [G.len]; exact (List.getElem?_eq_some_iff.mp hk).1
    obtain ⟨o, ho⟩ := (G.objs k _ ps[k] hk (List.getElem?_eq_getElem hlt)).there
    exact absurd (Heap.lt_size ho) (Nat.not_lt.mpr ha)
  have out0 : ∀ a, s.heap.objs.size ≤ a → B.h0.get? a = none := by
    intro a ha
    cases hq : B.h0.get? a with
    | none => rfl
    | some o => exact absurd (Heap.lt_size (G.base a o hq)) (Nat.not_lt.mpr ha)
  let C := callCtx B fd s.heap.objs.size f
  have lay : ∀ y ∈ C.D, ∃ k, fd.scope.names.lookup y.1 = some k ∧ layAt fd.scope s.heap.objs.size (y.1, k) = some y := fun y hy =>
    let ⟨k, h1, h2⟩ := layout_mem hy; ⟨k, lookup_of_nodup hnn h1, h2⟩
  have cells : ∀ y ∈ C.D, ∀ c, y.2.cell? = some c → C.env.cells.lookup y.1 = some c ∧ fd.scope.names.lookup y.1 = some .cell ∧ y.2 = .own c := by
    intro y hy c e
    obtain ⟨k, h1, h2⟩ := lay y hy
    obtain ⟨y1, y2⟩ := y
    unfold layAt at h2
    cases k with
    | cell =>
      simp only at h2
      cases hq : (cellsFrom (s.heap.objs.size + 1) fd.scope.names []).lookup y1 with
      | none => rw [hq] at h2; cases h2
      | some c' => rw [hq] at h2; cases h2; cases e; exact ⟨hq, h1, rfl⟩
    | «local» => simp only at h2; cases h2; cases e
    | _ => simp only at h2; cases h2
  have locs : ∀ y ∈ C.D, y.2.cell? = none → fd.scope.names.lookup y.1 = some .local := by
    intro y hy e
    obtain ⟨k, h1, h2⟩ := lay y hy
    obtain ⟨y1, y2⟩ := y
    unfold layAt at h2
    cases k with
    | cell =>
      simp only at h2
      cases hq : (cellsFrom (s.heap.objs.size + 1) fd.scope.names []).lookup y1 with
      | none => rw [hq] at h2; cases h2
      | some c' => rw [hq] at h2; cases h2; cases e
    | «local» => exact h1
    | _ => simp only at h2; cases h2
  have cellUp : ∀ c, C.Cell c → s.heap.objs.size < c := fun c ⟨y, hy, e⟩ => x.above y.1 c (mem_of_lookup (cells y hy c e).1)
  have WUp : ∀ a, C.W a → s.heap.objs.size ≤ a := fun a ha => by
    rcases Ctx.W.cell C ha with rfl | hc
    · exact Nat.le_refl _
    · exact Nat.le_of_lt (cellUp a hc)
  obtain ⟨h₁, tk, hs', _⟩ := x.done
  have hkeep' := x.toInCall.keep
  have ok : C.Ok := by
    refine ⟨hk, hglob, hbui, fun y hy => ?_, layout_names hnn, fun y z c hy hz e1 e2 => ?_⟩
    · obtain ⟨y1, y2⟩ := y
      cases y2 with
      | loc => exact locs _ hy rfl
      | own c => obtain ⟨a, b, _⟩ := cells _ hy c rfl; exact ⟨b, a, Nat.ne_of_gt (cellUp c ⟨_, hy, rfl⟩)⟩
      | cap c => obtain ⟨_, _, q⟩ := cells _ hy c rfl; cases q
    · obtain ⟨a1, _, b1⟩ := cells y hy c e1
      obtain ⟨a2, _, b2⟩ := cells z hz c e2
      have := name_of_addr x.apart (mem_of_lookup a1) (mem_of_lookup a2)
      exact Prod.ext this (b1.trans b2.symm)
  have S : St C φ (initM C.D names pvals) ps s' := by
    refine ⟨ok, fun b o e => x.toInCall.keep b o (G.base b o e), fun a ha => ?_, G.nd, G.len, fun k a po ha hp => OR.move xx.toMv noW (fun o e => x.toInCall.keep a o e) (G.objs k a po ha hp), fun a ha => ?_, ?_, ?_, ?_, ?_, G.mod, G.lim⟩
    · rcases ha with ha | ha
      · exact G.new a ha
      · exact out0 a (WUp a ha)
    · rcases ha with rfl | hc
      · exact out _ (Nat.le_refl _)
      · exact out a (Nat.le_of_lt (cellUp a hc))
    · refine ⟨_, x.toInCall.ns, fun i y ov hy hov => ?_⟩
      have hym := List.mem_of_getElem? hy
      have hov' : ov = (names.zip pvals).lookup y.1 := by
        unfold initM at hov
        rw [List.getElem?_map, hy] at hov
        exact (Option.some.inj hov).symm
      have hnz : ((names.zip vals).map (·.1)).Nodup := by rw [zip_names hvl]; exact hn
      unfold SlotR
      cases hc : y.2.cell? with
      | none =>
        cases ov with
        | none => trivial
        | some p =>
          obtain ⟨v, hv1, hv2⟩ := zip_lookup hvals hov'.symm
          refine ⟨v, ?_, VR.ext xx.toMv noW hv2⟩
          rw [bindL_at hnz (locs y hym hc), hv1]; rfl
      | some c =>
        obtain ⟨hcl, hcn, _⟩ := cells y hym c hc
        have hcell := x.cell _ _ hcl
        cases ov with
        | none => exact ⟨_, hcell⟩
        | some p =>
          obtain ⟨v, hv1, hv2⟩ := zip_lookup hvals hov'.symm
          refine ⟨v, ?_, VR.ext xx.toMv noW hv2⟩
          have hnl : (callEnvC fd s.heap.objs.size f).kindOf y.1 ≠ some .local := by
            show fd.scope.names.lookup y.1 ≠ _
            rw [hcn]; simp
          rw [bindC_at hnz hnl, hv1] at hcell
          exact hcell
    · show (C.D.map _).length = _; rw [List.length_map]
    · rw [hs']; exact G.gens
    · rw [hs']; exact G.os
  refine wpAny_mono (h s.heap.objs.size _ φ s' (R.deeper _) S) (fun fl s'' ⟨φ'', a, m'', ps'', q, S'', hf, x''⟩ => ?_) noE
  have fin : Ext (fun _ => False) φ φ'' s.heap s''.heap := by
    obtain ⟨r, hr, hr'⟩ := x''.pre
    refine ⟨⟨⟨r, hr, fun a ha => ?_⟩, fun b o e hb _ => x''.keep b o (hkeep' b o e) hb fun hw => ?_⟩, fun b o e => x''.dom b o (hkeep' b o e)⟩
    · cases hq : s.heap.get? a with
      | none => rfl
      | some o => have := hkeep' a o hq; rw [hr' a ha] at this; cases this
    · exact absurd (Heap.lt_size e) (Nat.not_lt.mpr (WUp b hw))
  cases a with
  | ret p => obtain ⟨v, rfl, hv⟩ := hf; exact ⟨v, rfl, φ'', p, ps'', q, S''.g, hv, fin⟩
  | next => rw [show fl = .next from hf]; exact ⟨_, rfl, φ'', .none, ps'', q, S''.g, vr_none, fin⟩
  | brk => rw [show fl = .brk from hf]; exact ⟨_, rfl, φ'', .none, ps'', q, S''.g, vr_none, fin⟩
  | cont => rw [show fl = .cont from hf]; exact ⟨_, rfl, φ'', .none, ps'', q, S''.g, vr_none, fin⟩
end Mine

namespace Mine
open PySem PySem.Calls PyProof.Rows PySem.W PySem.SeqAt
open AutoSeq1 (wpAny_loadPart')

set_option maxHeartbeats 4000000 in
theorem tuple_lt2 (l b : Addr) (a1 a2 b1 b2 : Int) (t1 t2 u1 u2 : Tok) (n n2 : Nat) :
    Meets (Builtin.«tuple.__lt__» ⟨[.ref l, .ref b], []⟩)
      (fun A R s => s.heap.get? l = some (tupO #[.int a1 t1, .int a2 t2] n) ∧ s.heap.get? b = some (tupO #[.int b1 u1, .int b2 u2] n2) ∧
        R (.ok (.ret (.bool (decide (a1 < b1 ∨ (a1 = b1 ∧ a2 < b2)))))) s) :=
  .of_wp fun prog w A R s h => by
    obtain ⟨hp, g, d, tk, os⟩ := s; obtain ⟨hl, hb, h⟩ := h
    have f2 := AutoSeq1.sub_tuple_tuple
    have q1 : ∀ (c : Bool) (A : Around) (E : Value → Shared → Prop) (Q : Bool → Shared → Prop), (a1 == b1) = c → Q c ⟨hp, g, d, tk, os⟩ → wpAny (model prog w) A (eqBool (.int a1 t1) (.int b1 u1)) Q E ⟨hp, g, d, tk, os⟩ :=
      fun c A E Q e h => wpAny_eqBool_int (by rw [e]; exact h)
    have q2 : ∀ (c : Bool) (A : Around) (E : Value → Shared → Prop) (Q : Bool → Shared → Prop), (a2 == b2) = c → Q c ⟨hp, g, d, tk, os⟩ → wpAny (model prog w) A (eqBool (.int a2 t2) (.int b2 u2)) Q E ⟨hp, g, d, tk, os⟩ :=
      fun c A E Q e h => wpAny_eqBool_int (by rw [e]; exact h)
    have r1 : ∀ (A : Around) (E : Value → Shared → Prop) (Q : Value → Shared → Prop), Q (.bool (decide (a1 < b1))) ⟨hp, g, d, tk, os⟩ → wpAny (model prog w) A (richCompare .Lt (.int a1 t1) (.int b1 u1)) Q E ⟨hp, g, d, tk, os⟩ :=
      fun A E Q h => P.lt_int h
    have r2 : ∀ (A : Around) (E : Value → Shared → Prop) (Q : Value → Shared → Prop), Q (.bool (decide (a2 < b2))) ⟨hp, g, d, tk, os⟩ → wpAny (model prog w) A (richCompare .Lt (.int a2 t2) (.int b2 u2)) Q E ⟨hp, g, d, tk, os⟩ :=
      fun A E Q h => P.lt_int h
    by_cases e1 : a1 = b1
    · by_cases e2 : a2 = b2
      · have h' : R (.ok (.ret (.bool false))) ⟨hp, g, d, tk, os⟩ := by
          have : decide (a1 < b1 ∨ (a1 = b1 ∧ a2 < b2)) = false := decide_eq_false (by omega)
          rw [this] at h; exact h
        wp_walk using wpAny_loadPart' hl, wpAny_loadPart' hb, q1 true _ _ _ (by simpa using e1), q2 true _ _ _ (by simpa using e2)
        exact ⟨_, rfl, h'⟩
      · have h' : R (.ok (.ret (.bool (decide (a2 < b2))))) ⟨hp, g, d, tk, os⟩ := by
          have : decide (a1 < b1 ∨ (a1 = b1 ∧ a2 < b2)) = decide (a2 < b2) := by rw [decide_eq_decide]; omega
          rw [this] at h; exact h
        wp_walk using wpAny_loadPart' hl, wpAny_loadPart' hb, q1 true _ _ _ (by simpa using e1), q2 false _ _ _ (by simpa using e2), r2
        exact ⟨_, rfl, h'⟩
    · have h' : R (.ok (.ret (.bool (decide (a1 < b1))))) ⟨hp, g, d, tk, os⟩ := by
        have : decide (a1 < b1 ∨ (a1 = b1 ∧ a2 < b2)) = decide (a1 < b1) := by rw [decide_eq_decide]; omega
        rw [this] at h; exact h
      wp_walk using wpAny_loadPart' hl, wpAny_loadPart' hb, q1 false _ _ _ (by simpa using e1), r1
      exact ⟨_, rfl, h'⟩
end Mine

namespace Mine
open PySem PySem.Calls PyProof.Rows PySem.W PySem.SeqAt PySem.Spec

variable {C : Ctx} {n : Nat} {φ φ' : List Addr} {m : List (Option PV)} {ps : List PO} {s : Shared} {h h' : Heap}

/-! ## lists -/
def contents (ps : List PO) : PV → Option (List PV)
  | .lst l => some l
  | .obj k => match ps[k]? with
    | some (.list l) => some l
    | _ => none
  | _ => none

theorem GSt.list {B : Base} (S : GSt B φ ps s) {p : PV} {v : Value} {l : List PV} (r : VR φ s.heap p v) (e : contents ps p = some l) : ∃ a vs, v = .ref a ∧ s.heap.PlainList a vs ∧ VRs φ s.heap l vs.toList := by
  cases p with
  | lst l' => cases e; obtain ⟨a, vs, rfl, _, ho, hr⟩ := VR.lst_inv r; exact ⟨a, vs, rfl, ho, hr⟩
  | obj k =>
    obtain ⟨a, ha, rfl⟩ := VR.obj_inv r
    unfold contents at e
    cases hp : ps[k]? with
    | none => simp [hp] at e
    | some po =>
      cases po with
      | list l' =>
        simp [hp] at e; subst e
        obtain ⟨vs, ho, hr⟩ := S.objs k a _ ha hp
        exact ⟨a, vs, rfl, ho, hr⟩
      | idict _ _ => simp [hp] at e
      | tdict _ _ => simp [hp] at e
  | _ => cases e
theorem St.list (S : St C φ m ps s) {p : PV} {v : Value} {l : List PV} (r : VR φ s.heap p v) (e : contents ps p = some l) : ∃ a vs, v = .ref a ∧ s.heap.PlainList a vs ∧ VRs φ s.heap l vs.toList := S.g.list r e

/-! ## data -/
structure DK (α : Type) [DecidableEq α] where
  f : α → PV
  g : α → PyData
  read : ∀ {φ h v} (x : α), VR φ h (f x) v → ∃ as, Reads h v (g x) as
  lay : ∀ x, (g x).canLay0 = true
  depth : ∀ x, (g x).depth ≤ 4
  eqv : ∀ x y, PyData.eqv (g x) (g y) = decide (x = y)

def pv2 (x : Int × Int) : PV := .tup [.int x.1, .int x.2]
theorem reads_int {φ : List Addr} {h : Heap} {i : Int} {v : Value} (r : VR φ h (.int i) v) : ∃ as, Reads h v (.int i) as := by
  obtain ⟨t, rfl⟩ := VR.int_inv r; exact ⟨_, Reads.int i t⟩
def dkI : DK Int where
  f := .int
  g := .int
  read := fun x r => reads_int r
  lay := fun _ => rfl
  depth := fun _ => by simp [PyData.depth]
  eqv := fun x y => by
    show (x == y) = _
    by_cases h : x = y <;> simp [h]
def dk2 : DK (Int × Int) where
  f := pv2
  g := fun x => .tuple [.int x.1, .int x.2]
  read := fun {φ h v} x r => by
    obtain ⟨a, vs, n, rfl, _, ho, hr⟩ := VR.tup_inv r
    obtain ⟨v1, us, e1, hv1, hr⟩ := VRs.cons_inv hr
    obtain ⟨v2, us', e2, hv2, hr⟩ := VRs.cons_inv hr
    have e3 := VRs.nil_inv hr
    subst e3 e2
    obtain ⟨t1, rfl⟩ := VR.int_inv hv1
    obtain ⟨t2, rfl⟩ := VR.int_inv hv2
    have hr : ReadsAll h vs.toList [.int x.1, .int x.2] ([] ++ ([] ++ [])) := by
      rw [e1]
      exact .cons (.int _ _) (.cons (.int _ _) .nil)
    exact ⟨_, Reads.tuple ho rfl rfl hr⟩
  lay := fun _ => rfl
  depth := fun _ => by simp [PyData.depth, PyData.depthAll]
  eqv := fun x y => by
    show (x.1 == y.1 && (x.2 == y.2 && true)) = _
    obtain ⟨a, b⟩ := x
    obtain ⟨c, d⟩ := y
    by_cases h1 : a = c <;> by_cases h2 : b = d <;> simp [h1, h2]

section
variable {α : Type} [DecidableEq α] (K : DK α)
theorem DK.reads : ∀ {l : List α} {vs : List Value}, VRs φ h (l.map K.f) vs → ∃ as, ReadsAll h vs (l.map K.g) as
  | [], vs, r => by rw [VRs.nil_inv r]; exact ⟨_, .nil⟩
  | x :: l, vs, r => by
    obtain ⟨v, us, rfl, hv, hr⟩ := VRs.cons_inv (p := K.f x) (ps := l.map K.f) r
    obtain ⟨as, h1⟩ := K.read x hv
    obtain ⟨bs, h2⟩ := DK.reads hr
    exact ⟨_, .cons h1 h2⟩
theorem DK.layAll : ∀ l : List α, PyData.canLayAll0 (l.map K.g) = true
  | [] => rfl
  | x :: l => by rw [List.map_cons, PyData.canLayAll0, K.lay, DK.layAll l]; rfl
theorem DK.depthAll : ∀ l : List α, PyData.depthAll (l.map K.g) ≤ 4
  | [] => by simp [PyData.depthAll]
  | x :: l => by
    have := K.depth x
    have := DK.depthAll l
    rw [List.map_cons, PyData.depthAll]
    omega
theorem DK.eqvAll : ∀ l l' : List α, PyData.eqvAll (l.map K.g) (l'.map K.g) = decide (l = l')
  | [], [] => by simp [PyData.eqvAll]
  | [], _ :: _ => by simp [PyData.eqvAll]
  | _ :: _, [] => by simp [PyData.eqvAll]
  | x :: l, y :: l' => by
    rw [List.map_cons, List.map_cons, PyData.eqvAll, K.eqv, DK.eqvAll l l']
    by_cases h1 : x = y <;> by_cases h2 : l = l' <;> simp [h1, h2]
theorem DK.any (x : α) : ∀ l : List α, ((l.map K.g).any fun y => PyData.eqv y (K.g x)) = decide (x ∈ l)
  | [] => by simp
  | y :: l => by
    rw [List.map_cons, List.any_cons, K.eqv, DK.any x l]
    by_cases h1 : y = x
    · subst h1; simp
    · have h2 : ¬ x = y := fun e => h1 e.symm
      simp [h1, h2]

theorem St.readsL (S : St C φ m ps s) {p : PV} {v : Value} {l : List α} (r : VR φ s.heap p v) (e : contents ps p = some (l.map K.f)) : ∃ as, Reads s.heap v (.list (l.map K.g)) as := by
  obtain ⟨a, vs, rfl, hpl, hr⟩ := S.list r e
  obtain ⟨o, ho, hc, n, hd⟩ := hpl.isList
  obtain ⟨as, hr'⟩ := K.reads hr
  exact ⟨_, Reads.list ho hc hd hr'⟩

theorem AO_in {x : α} {q : PV} {l : List α} {Q : PV → List PO → Prop} (e : contents ps q = some (l.map K.f)) (hq : Q (.bool (decide (x ∈ l))) ps) : AO2 C n (compareOp .In) (K.f x) q m ps Q := by
  intro A φ s v u R S hv hu
  obtain ⟨as, r1⟩ := S.readsL K hu e
  obtain ⟨bs, r2⟩ := K.read x hv
  refine in_list_reads r1 r2 (K.layAll l) (K.lay x) ?_ ?_
  · have := R.2.2; have := K.depth x; omega
  · rw [K.any]; exact Post.here S vr_bool hq
theorem AO_notIn {x : α} {q : PV} {l : List α} {Q : PV → List PO → Prop} (e : contents ps q = some (l.map K.f)) (hq : Q (.bool (!decide (x ∈ l))) ps) : AO2 C n (compareOp .NotIn) (K.f x) q m ps Q := by
  intro A φ s v u R S hv hu
  obtain ⟨as, r1⟩ := S.readsL K hu e
  obtain ⟨bs, r2⟩ := K.read x hv
  refine notIn_list_reads r1 r2 (K.layAll l) (K.lay x) ?_ ?_
  · have := R.2.2; have := K.depth x; omega
  · rw [K.any]; exact Post.here S vr_bool hq
theorem AO_eqL {p q : PV} {l l' : List α} {Q : PV → List PO → Prop} (e1 : contents ps p = some (l.map K.f)) (e2 : contents ps q = some (l'.map K.f)) (hq : Q (.bool (decide (l = l'))) ps) : AO2 C n (compareOp .Eq) p q m ps Q := by
  intro A φ s v u R S hv hu
  obtain ⟨as, r1⟩ := S.readsL K hv e1
  obtain ⟨bs, r2⟩ := S.readsL K hu e2
  refine compareEq_reads r1 r2 (K.layAll l) (K.layAll l') ?_ ?_
  · have := R.2.2; have := K.depthAll l; simp only [PyData.depth]; omega
  · rw [PyData.eqv, K.eqvAll]; exact Post.here S vr_bool hq
theorem AO_neL {p q : PV} {l l' : List α} {Q : PV → List PO → Prop} (e1 : contents ps p = some (l.map K.f)) (e2 : contents ps q = some (l'.map K.f)) (hq : Q (.bool (!decide (l = l'))) ps) : AO2 C n (compareOp .NotEq) p q m ps Q := by
  intro A φ s v u R S hv hu
  obtain ⟨as, r1⟩ := S.readsL K hv e1
  obtain ⟨bs, r2⟩ := S.readsL K hu e2
  refine compareNe_reads r1 r2 (K.layAll l) (K.layAll l') ?_ ?_
  · have := R.2.2; have := K.depthAll l; simp only [PyData.depth]; omega
  · rw [PyData.eqv, K.eqvAll]; exact Post.here S vr_bool hq
theorem AO_neK {x y : α} {Q : PV → List PO → Prop} (hq : Q (.bool (!decide (x = y))) ps) : AO2 C n (compareOp .NotEq) (K.f x) (K.f y) m ps Q := by
  intro A φ s v u R S hv hu
  obtain ⟨as, r1⟩ := K.read x hv
  obtain ⟨bs, r2⟩ := K.read y hu
  refine compareNe_reads r1 r2 (K.lay x) (K.lay y) ?_ ?_
  · have := R.2.2; have := K.depth x; omega
  · rw [K.eqv]; exact Post.here S vr_bool hq
end

theorem AO_lt2 {x y : Int × Int} {Q : PV → List PO → Prop} (hq : Q (.bool (decide (x.1 < y.1 ∨ (x.1 = y.1 ∧ x.2 < y.2)))) ps) : AO2 C n (compareOp .Lt) (pv2 x) (pv2 y) m ps Q := by
  have shape : ∀ {φ : List Addr} {h : Heap} {v : Value} {x : Int × Int}, VR φ h (pv2 x) v → ∃ a n t u, v = .ref a ∧ h.get? a = some (tupO #[.int x.1 t, .int x.2 u] n) := by
    intro φ h v x r
    obtain ⟨a, vs, n, rfl, _, ho, hr⟩ := VR.tup_inv r
    obtain ⟨v1, us, e1, hv1, hr⟩ := VRs.cons_inv hr
    obtain ⟨v2, us', e2, hv2, hr⟩ := VRs.cons_inv hr
    have e3 := VRs.nil_inv hr
    subst e3 e2
    obtain ⟨t1, rfl⟩ := VR.int_inv hv1
    obtain ⟨t2, rfl⟩ := VR.int_inv hv2
    obtain ⟨vl⟩ := vs
    have e1' : vl = _ := e1
    subst e1'
    exact ⟨a, n, t1, t2, rfl, ho⟩
  intro A φ s v u R S hv hu
  obtain ⟨a, k1, t1, t2, rfl, ho⟩ := shape hv
  obtain ⟨b, k2, u1, u2, rfl, ho2⟩ := shape hu
  exact richCompare_meets_room (op := .Lt) ⟨_, ho, rfl⟩ ⟨_, ho2, rfl⟩ F.slot_tuple_lt F.entry_tuple_lt (F.args_tuple_lt_2 _ _) (tuple_lt2 a b x.1 x.2 y.1 y.2 t1 t2 u1 u2 k1 k2)
    ⟨ho, ho2, show _ ≠ Value.notImplemented ∧ _ from ⟨(fun e => nomatch e), Post.here S vr_bool hq⟩⟩ R.units

/-! ## built-ins and calls -/
theorem AL_nil {Q : List PV → List PO → Prop} (q : Q [] ps) : AL C n [] m ps Q := fun A φ s pos R S => wpAny_items_nil ⟨φ, [], ps, q, S, VRs.nil, Ext.refl⟩
theorem AL_cons {e : Expr} {es : List Expr} {Q : List PV → List PO → Prop} (h : AE C n e m ps fun p ps₁ => AL C n es m ps₁ fun l ps₂ => Q (p :: l) ps₂)
    (he : starEach (e :: es) C.env = (false, eval e C.env) :: starEach es C.env := by rfl) : AL C n (e :: es) m ps Q :=
  fun A φ s pos R S => wpAny_items_cons (wpAny_mono (h A φ s R S) (fun v s₁ ⟨φ₁, p, ps₁, q₁, S₁, hv, x₁⟩ => wpAny_mono (q₁ A φ₁ s₁ pos R S₁) (fun vs s₂ ⟨φ₂, l, ps₂, q₂, S₂, hl, x₂⟩ =>
    ⟨φ₂, p :: l, ps₂, q₂, S₂, VRs.cons (S₁.vr x₂ hv) hl, x₁.trans x₂⟩) noE) noE) he

def GLook (B : Base) (x : Str) (v : Value) : Prop :=
  (∃ mg, B.h0.Ns mainGlobals mg ∧ mg x = some v) ∨ ∃ mg mb, B.h0.Ns mainGlobals mg ∧ mg x = none ∧ B.h0.Ns builtinsNs mb ∧ mb x = some v
theorem wpAny_global {x : Str} {pos : Pos} {v : Value} {A : Around} {Q : Value → Shared → Prop} (S : St C φ m ps s) (hk : C.env.kindOf x = some .globalImplicit) (hg : GLook C.toBase x v) (q : Q v s)
    (hd : (x == ("__debug__" : Str)) = false := by decide) : wpAny (model C.prog C.w) A (eval (.Name x pos) C.env) Q NoE s := by
  refine wpAny_Name ?_ hd
  rw [loadName_read S.ok.kind hk]
  rcases hg with ⟨mg, hn, hv⟩ | ⟨mg, mb, hn, hm, hb, hv⟩
  · exact loadGlobal_global (by rw [S.ok.glob]; exact hn.keeps S.base) hv q
  · exact loadGlobal_builtin (by rw [S.ok.glob]; exact hn.keeps S.base) hm (by rw [S.ok.bui]; exact hb.keeps S.base) hv q

theorem AE_call_def {x : Str} {px pos : Pos} {f : Addr} {o : Obj} {fd : FuncData} {e : Expr} {es : List Expr} {Q : PV → List PO → Prop} (hk : C.env.kindOf x = some .globalImplicit) (hg : GLook C.toBase x (.ref f))
    (ho : C.h0.get? f = some o) (hd : o.data = .func fd) (h : AL C n (e :: es) m ps fun l ps₁ => FC C.toBase n f l ps₁ Q)
    (hx : (x == ("__debug__" : Str)) = false := by decide) (he : starEach (e :: es) C.env = (false, eval e C.env) :: starEach es C.env := by rfl) : AE C n (.Call (.Name x px) (e :: es) [] pos) m ps Q := by
  intro A φ s R S
  show wpAny _ _ (eval (.Name x px) C.env >>= fun f => callWith pos f [] (backTo pos (starEach (e :: es) C.env)) []) _ _ s
  refine wpAny_bind (wpAny_global S hk hg ?_ hx)
  refine callWith_function (o := o) (fd := fd) ?_
  have ha := h A φ s pos R S
  rw [he] at ha ⊢
  refine evalArgs_plain (wpAny_mono ha (fun vs s₁ ⟨φ₁, l, ps₁, q, S₁, hl, x₁⟩ => ⟨⟨S₁.base _ _ ho, hd⟩, ?_⟩) noE)
  show wpAny _ _ (call (.ref f) ([] ++ vs) []) _ _ s₁
  rw [List.nil_append]
  refine wpAny_call (codeAny_mono (q A φ₁ s₁ vs R S₁.g hl) fun r s' ⟨v, e, φ', p, ps', q', G', hv, x'⟩ => ?_)
  subst e
  obtain ⟨S', xx⟩ := S₁.back G' x'
  exact ⟨φ', p, ps', q', S', hv, x₁.trans xx⟩

theorem AE_call_builtin {x : Str} {px pos : Pos} {id : String} {e : Expr} {es : List Expr} {Q : PV → List PO → Prop} (hk : C.env.kindOf x = some .globalImplicit) (hg : GLook C.toBase x (.builtin id))
    (h : AL C n (e :: es) m ps fun l ps₁ => BC C n (.builtin id) l m ps₁ Q)
    (hx : (x == ("__debug__" : Str)) = false := by decide) (he : starEach (e :: es) C.env = (false, eval e C.env) :: starEach es C.env := by rfl) (hp : (backTo pos (starEach (e :: es) C.env)).any (·.1) = false := by rfl) : AE C n (.Call (.Name x px) (e :: es) [] pos) m ps Q := by
  intro A φ s R S
  show wpAny _ _ (eval (.Name x px) C.env >>= fun f => callWith pos f [] (backTo pos (starEach (e :: es) C.env)) []) _ _ s
  refine wpAny_bind (wpAny_global S hk hg ?_ hx)
  refine callWith_builtin hp ?_
  have ha := h A φ s pos R S
  rw [he] at ha ⊢
  refine evalArgs_plain (wpAny_mono ha (fun vs s₁ ⟨φ₁, l, ps₁, q, S₁, hl, x₁⟩ => ?_) noE)
  show wpAny _ _ (call (.builtin id) ([] ++ vs) []) _ _ s₁
  rw [List.nil_append]
  exact wpAny_mono (q A φ₁ s₁ vs R S₁ hl) (fun v s₂ r => r.ext x₁) noE
theorem AE_call_type {x : Str} {px pos : Pos} {id : String} {e : Expr} {es : List Expr} {Q : PV → List PO → Prop} (hk : C.env.kindOf x = some .globalImplicit) (hg : GLook C.toBase x (.type id))
    (h : AL C n (e :: es) m ps fun l ps₁ => BC C n (.type id) l m ps₁ Q)
    (hx : (x == ("__debug__" : Str)) = false := by decide) (he : starEach (e :: es) C.env = (false, eval e C.env) :: starEach es C.env := by rfl) (hp : (backTo pos (starEach (e :: es) C.env)).any (·.1) = false := by rfl) : AE C n (.Call (.Name x px) (e :: es) [] pos) m ps Q := by
  intro A φ s R S
  show wpAny _ _ (eval (.Name x px) C.env >>= fun f => callWith pos f [] (backTo pos (starEach (e :: es) C.env)) []) _ _ s
  refine wpAny_bind (wpAny_global S hk hg ?_ hx)
  refine PySem.callWith_type hp ?_
  have ha := h A φ s pos R S
  rw [he] at ha ⊢
  refine evalArgs_plain (wpAny_mono ha (fun vs s₁ ⟨φ₁, l, ps₁, q, S₁, hl, x₁⟩ => ?_) noE)
  show wpAny _ _ (call (.type id) ([] ++ vs) []) _ _ s₁
  rw [List.nil_append]
  exact wpAny_mono (q A φ₁ s₁ vs R S₁ hl) (fun v s₂ r => r.ext x₁) noE

theorem BC_len {p : PV} {l : List PV} {Q : PV → List PO → Prop} (e : contents ps p = some l) (hl : l.length < 2 ^ 62) (q : Q (.int l.length) ps) : BC C n (.builtin "len") [p] m ps Q := by
  intro A φ s vs R S hv
  obtain ⟨v, us, rfl, hv, hr⟩ := VRs.cons_inv hv
  rw [VRs.nil_inv hr]
  obtain ⟨a, xs, rfl, ho, hr⟩ := S.list hv e
  have hsz : xs.size = l.length := by rw [← Array.length_toList]; exact hr.length
  refine call_len_list ho.isList (by rw [hsz]; omega) ?_
  rw [hsz]
  exact Post.now S _ vr_int q

/-! ## displays -/
theorem AE_tuple {es : List Expr} {k : Nat} {pos : Pos} {Q : PV → List PO → Prop} (h : AL C n es m ps fun l ps₁ => l.length ≤ 100 ∧ Q (.tup l) ps₁) : AE C n (.Tuple es k pos) m ps Q := by
  intro A φ s R S
  refine wpAny_Tuple (wpAny_mono (h A φ s pos R S) (fun vs s₁ ⟨φ₁, l, ps₁, ⟨hl, q⟩, S₁, hv, x₁⟩ => ⟨?_, φ₁, .tup l, ps₁, q, S₁.push _ _, ?_, x₁.trans (Ext.push _)⟩) noE)
  · rw [hv.length, sizeLine_eq]; omega
  · exact vr_tup S₁.fresh_φ (Heap.get?_push_size _ rfl) (S₁.vrs (Ext.push _) hv)
/-- a list display as data -/
theorem AE_list {es : List Expr} {pos : Pos} {Q : PV → List PO → Prop} (h : AL C n es m ps fun l ps₁ => l.length ≤ 100 ∧ Q (.lst l) ps₁) : AE C n (.List es pos) m ps Q := by
  intro A φ s R S
  refine wpAny_List (wpAny_mono (h A φ s pos R S) (fun vs s₁ ⟨φ₁, l, ps₁, ⟨hl, q⟩, S₁, hv, x₁⟩ => ⟨?_, φ₁, .lst l, ps₁, q, S₁.push _ _, ?_, x₁.trans (Ext.push _)⟩) noE)
  · rw [hv.length, sizeLine_eq]; omega
  · exact vr_lst S₁.fresh_φ (isList_new _ _) (S₁.vrs (Ext.push _) hv)
/-- a list display as an object -/
theorem AE_listO {es : List Expr} {pos : Pos} {Q : PV → List PO → Prop} (h : AL C n es m ps fun l ps₁ => l.length ≤ 100 ∧ Q (.obj ps₁.length) (ps₁ ++ [.list l])) : AE C n (.List es pos) m ps Q := by
  intro A φ s R S
  refine wpAny_List (wpAny_mono (h A φ s pos R S) (fun vs s₁ ⟨φ₁, l, ps₁, ⟨hl, q⟩, S₁, hv, x₁⟩ => ⟨?_, ?_⟩) noE)
  · rw [hv.length, sizeLine_eq]; omega
  · have x₂ : Ext C.W φ₁ (φ₁ ++ [s₁.heap.objs.size]) s₁.heap (s₁.heap.push (lstO vs.toArray 0)) :=
      Ext.alloc _
    obtain ⟨S₂, x₃⟩ := S₁.alloc (o := lstO vs.toArray 0) (po := .list l) s₁.toks ⟨vs.toArray, isList_new _ _, VRs.ext x₂.toMv S₁.noSeq hv⟩
    exact ⟨_, .obj ps₁.length, _, q, S₂, vr_obj (by rw [S₁.len]; simp), x₁.trans x₃⟩

/-! ## items -/
def AItem (C : Ctx) (n : Nat) (base slice : Expr) (p q : PV) (m : List (Option PV)) (ps : List PO) (Q : PV → List PO → Prop) : Prop :=
  ∀ A φ s v u, Room n A → St C φ m ps s → VR φ s.heap p v → VR φ s.heap q u → wpAny (model C.prog C.w) A (subscriptTail base slice v u) (Post C φ m s.heap Q) NoE s
theorem AE_sub {base slice : Expr} {pos : Pos} {Q : PV → List PO → Prop} (h : AE C n base m ps fun p ps₁ => AE C n slice m ps₁ fun q ps₂ => AItem C n base slice p q m ps₂ Q) : AE C n (.Subscript base slice pos) m ps Q :=
  fun A φ s R S => Subscript_ (wpAny_mono (h A φ s R S) (fun a s₁ ⟨φ₁, p, ps₁, h₁, S₁, v₁, x₁⟩ => wpAny_mono (h₁ A φ₁ s₁ R S₁) (fun b s₂ ⟨φ₂, q, ps₂, h₂, S₂, v₂, x₂⟩ =>
    wpAny_mono (h₂ A φ₂ s₂ a b R S₂ (S₁.vr x₂ v₁) v₂) (fun c s₃ r => (r.ext x₂).ext x₁) noE) noE) noE)

theorem AItem_list {base slice : Expr} {p : PV} {l : List PV} {i : Int} {x : PV} {Q : PV → List PO → Prop} (e : contents ps p = some l) (h0 : 0 ≤ i) (hi : i < 2 ^ 62) (hx : l[i.toNat]? = some x) (q : Q x ps)
    (hs : ∀ o u, subscripted slice false o u = operate [o, u] (getItem o u) := by intro _ _; with_unfolding_all rfl) : AItem C n base slice p (.int i) m ps Q := by
  intro A φ s v u R S hv hu
  obtain ⟨a, xs, rfl, hpl, hr⟩ := S.list hv e
  have hl := hpl.isList
  obtain ⟨t, rfl⟩ := VR.int_inv hu
  obtain ⟨w, hw, hwr⟩ := hr.get hx
  exact tail_any hl.typeIs slot_list_getitem.lookup (wpAny_getItem_list hl h0 (by omega) (by rw [← Array.getElem?_toList]; exact hw) (Post.here S hwr q)) (hs _ _)
end Mine

namespace Mine
open PySem PySem.Calls PyProof.Rows PySem.W PySem.SeqAt PySem.Spec

variable {C : Ctx} {n : Nat} {φ φ' : List Addr} {m : List (Option PV)} {ps : List PO} {s : Shared} {h h' : Heap}

structure Apart (C : Ctx) (I : Addr) : Prop where
  loc : I ≠ C.env.locals
  cell : ¬ C.Cell I
  h0 : C.h0.get? I = none

theorem Mv.iter {I : Addr} (hx : Heap.ExtBut I h h') : Mv (fun b => b = I) φ φ h h' := ⟨⟨[], by simp, by simp⟩, fun b o e _ hb => hx b o hb e⟩
theorem Ext.iter {W : Addr → Prop} {h₀ : Heap} {I : Addr} (x : Ext W φ φ' h₀ h) (hx : Heap.ExtBut I h h') (hI : h₀.get? I = none) : Ext W φ φ' h₀ h' := by
  have ne : ∀ b o, h₀.get? b = some o → b ≠ I := fun b o e e' => by subst e'; rw [hI] at e; cases e
  exact ⟨⟨x.pre, fun b o e hb hW => hx b o (ne b o e) (x.keep b o e hb hW)⟩, fun b o e => let ⟨o', e'⟩ := x.dom b o e; ⟨o', hx b o' (ne b o e) e'⟩⟩

theorem St.iter (S : St C φ m ps s) {I : Addr} (t : Nat) (hx : Heap.ExtBut I s.heap h') (a : Apart C I) (hI : I ∉ φ) (hns : ∀ o vs n, s.heap.get? I = some o → o.data ≠ .seq vs n) : St C φ m ps { s with heap := h', toks := t } := by
  have mv : Mv (fun b => b = I) φ φ s.heap h' := Mv.iter hx
  have ns : NoSeq (fun b => b = I) s.heap := fun b hb o vs n e => hns o vs n (by rw [← hb]; exact e)
  refine ⟨S.ok, fun b o e => hx b o (fun e' => ?_) (S.base b o e), S.new, S.nd, S.len, fun k b po hb hp => OR.move mv ns (fun o e => hx b o (fun e' => ?_) e) (S.objs k b po hb hp), S.off, ?_, S.mlen, S.gens, S.os, S.mod, S.lim⟩
  · subst e'; rw [a.h0] at e; cases e
  · subst e'; exact hI (List.mem_of_getElem? hb)
  · obtain ⟨ml, ⟨o, es, ep, ho, rest⟩, hs⟩ := S.loc
    refine ⟨ml, ⟨o, es, ep, hx _ o (Ne.symm a.loc) ho, rest⟩, fun i y ov hi hm => ?_⟩
    refine SlotR.move mv ns (fun c v hc hv => ?_) (hs i y ov hi hm)
    obtain ⟨oc, hoc, hd⟩ := hv
    exact ⟨oc, hx c oc (fun e' => a.cell ⟨y, List.mem_of_getElem? hi, e' ▸ hc⟩) hoc, hd⟩

structure Iter (B : Base) (n : Nat) (target : Expr) (I : Addr) (nxt : Nat → List PO → Option PV) (ok : List PO → Prop) (IT : List Addr → Nat → Heap → Prop) (IM : List Addr → Nat → Value → Heap → Prop) : Prop where
  there : ∀ φ i h, IT φ i h → ∃ o, h.get? I = some o ∧ ∀ vs n, o.data ≠ .seq vs n
  move : ∀ W φ φ' i h h', IT φ i h → Mv W φ φ' h h' → NoSeq W h → (∀ o, h.get? I = some o → h'.get? I = some o) → IT φ' i h'
  thereM : ∀ φ i v h, IM φ i v h → ∃ o, h.get? I = some o ∧ ∀ vs n, o.data ≠ .seq vs n
  item : ∀ A φ ps s i p (Q : Option Value → Shared → Prop) (E : Value → Shared → Prop), Room n A → GSt B φ ps s → I ∉ φ → IT φ i s.heap → ok ps → nxt i ps = some p →
    (∀ v h' t, IM φ i v h' → VR φ h' p v → Heap.ExtBut I s.heap h' → Q (some v) { s with heap := h', toks := t }) → wpAny (model B.prog B.w) A (pyNext (.ref I)) Q E s
  go : ∀ A s φ i v (Q : Unit → Shared → Prop) (E : Value → Shared → Prop), IM φ i v s.heap → (∀ h', IT φ (i + 1) h' → Heap.ExtBut I s.heap h' → Q () { s with heap := h' }) → wpAny (model B.prog B.w) A (letOwnedTupleGo target (.ref I) v) Q E s
  self : ∀ A s φ i (Q : Value → Shared → Prop) (E : Value → Shared → Prop), IT φ i s.heap → Q (.ref I) s → wpAny (model B.prog B.w) A (pyIter (.ref I)) Q E s
  stop : ∀ A φ ps s i (Q : Option Value → Shared → Prop) (E : Value → Shared → Prop), Room n A → GSt B φ ps s → I ∉ φ → IT φ i s.heap → ok ps → nxt i ps = none →
    (∀ h' t, Heap.ExtBut I s.heap h' → Q none { s with heap := h', toks := t }) → wpAny (model B.prog B.w) A (pyNext (.ref I)) Q E s

inductive ItP (C : Ctx) (n : Nat) (target : Expr) (φ' : List Addr) (m : List (Option PV)) (ps' : List PO) (h : Heap) (K : (Nat → List PO → Option PV) → (List PO → Prop) → List PO → Prop) (it : Value) (s₂ : Shared) : Prop
  | mk (I : Addr) (nxt : Nat → List PO → Option PV) (ok : List PO → Prop) (IT : List Addr → Nat → Heap → Prop) (IM : List Addr → Nat → Value → Heap → Prop) (e : it = .ref I) (W : Iter C.toBase n target I nxt ok IT IM) (hIT : IT φ' 0 s₂.heap) (k : K nxt ok ps') (S : St C φ' m ps' s₂)
    (x : Ext (fun _ => False) φ' φ' h s₂.heap) (hI : h.get? I = none) (ap : Apart C I) (hφ : I ∉ φ') : ItP C n target φ' m ps' h K it s₂
inductive ItQ (C : Ctx) (n : Nat) (A : Around) (target : Expr) (φ : List Addr) (m : List (Option PV)) (h : Heap) (K : (Nat → List PO → Option PV) → (List PO → Prop) → List PO → Prop) (x : Value) (s₁ : Shared) : Prop
  | mk (φ' : List Addr) (ps' : List PO) (S : St C φ' m ps' s₁) (e : Ext C.W φ φ' h s₁.heap) (w : wpAny (model C.prog C.w) A (pyIter x) (ItP C n target φ' m ps' s₁.heap K) NoE s₁) : ItQ C n A target φ m h K x s₁
def AIt (C : Ctx) (n : Nat) (target iter : Expr) (m : List (Option PV)) (ps : List PO) (K : (Nat → List PO → Option PV) → (List PO → Prop) → List PO → Prop) : Prop :=
  ∀ A φ s, Room n A → St C φ m ps s → wpAny (model C.prog C.w) A (eval iter C.env) (ItQ C n A target φ m s.heap K) NoE s

theorem AS_for {target iter : Expr} {body : List Stmt} {pos : Pos} {Q : AF → List (Option PV) → List PO → Prop} (J : Nat → List (Option PV) → List PO → Prop) (N : Nat)
    (h : AIt C n target iter m ps fun nxt ok ps₁ => J 0 m ps₁ ∧ ∀ i m ps, J i m ps → ok ps ∧
      (∀ p, nxt i ps = some p → i < N ∧ AT C n target p m ps fun m₁ ps₁ => ASs C n body m₁ ps₁ fun a m₂ ps₂ => match a with
        | .next | .cont => J (i + 1) m₂ ps₂
        | .brk => Q .next m₂ ps₂
        | .ret p => Q (.ret p) m₂ ps₂) ∧ (nxt i ps = none → Q .next m ps))
    (hs : ∀ x, foldedSetIterable iter C.env x = pure x := by intro _; rfl) : AS C n (.For target iter body [] pos) m ps Q := by
  intro A φ s R S
  refine wpAny_For (wpAny_mono (h A φ s R S) (fun x s₁ ⟨φ₂, ps₂, S₁, x₁, h₁⟩ => wpAny_mono h₁ (fun it s₂ h₂ => ?_) noE) noE) hs
  obtain ⟨I, nxt, ok, IT, IM, rfl, W, hIT, ⟨hJ, step⟩, S₂, x₁₂, hI₁, ap, hIφ⟩ := h₂
  have x₂ : Ext C.W φ φ₂ s.heap s₂.heap := x₁.trans2 x₁₂ fun _ _ _ hw => hw.elim
  have hI : s.heap.get? I = none := by
    cases hq : s.heap.get? I with
    | none => rfl
    | some o => obtain ⟨o', e'⟩ := x₁.dom _ o hq; rw [hI₁] at e'; cases e'
  refine codeAny_mono (codeAny_forLoop_any (R := fun r s' => match r with | .ok f => PostS C φ s.heap Q f s' | .error _ => False)
    (fun k s' => ∃ φ' m' ps' i, i ≤ N ∧ k = N - i ∧ J i m' ps' ∧ IT φ' i s'.heap ∧ St C φ' m' ps' s' ∧ Ext C.W φ φ' s.heap s'.heap ∧ I ∉ φ') ?_ N ⟨φ₂, m, ps₂, 0, Nat.zero_le _, rfl, hJ, hIT, S₂, x₂, hIφ⟩) ?_
  · rintro k s' ⟨φ', m', ps', i, hiN, rfl, hJ', hIT', S', x', hIφ'⟩
    obtain ⟨hok, hsome, hnone⟩ := step i m' ps' hJ'
    obtain ⟨oI, hoI, hns⟩ := W.there _ i _ hIT'
    have ns : ∀ o vs n, s'.heap.get? I = some o → o.data ≠ .seq vs n := fun o vs n e => by rw [hoI] at e; cases e; exact hns vs n
    cases hn : nxt i ps' with
    | none =>
      refine W.stop _ φ' ps' s' i _ _ (by exact R) S'.g hIφ' hIT' hok hn fun h' t hx => ?_
      exact wpAny_execs_nil ⟨φ', .next, m', ps', hnone hn, S'.iter t hx ap hIφ' ns, rfl, x'.iter hx hI⟩
    | some p =>
      obtain ⟨hi, hbody⟩ := hsome p hn
      refine W.item _ φ' ps' s' i p _ _ (by exact R) S'.g hIφ' hIT' hok hn fun v h' t hM hv hx => ?_
      have S₃ := S'.iter t hx ap hIφ' ns
      have x₃ := x'.iter hx hI
      obtain ⟨o₃, ho₃, hns₃⟩ := W.thereM _ i v _ hM
      have ns₃ : ∀ o vs n, h'.get? I = some o → o.data ≠ .seq vs n := fun o vs n e => by rw [ho₃] at e; cases e; exact hns₃ vs n
      refine W.go _ { s' with heap := h', toks := t } φ' i v _ _ hM fun h'' hIT'' hx' => ?_
      have S₄ := S₃.iter t hx' ap hIφ' ns₃
      have x₄ := x₃.iter hx' hI
      have hv' : VR φ' h'' p v := VR.ext (Mv.iter hx') (fun b hb o vs n e => ns₃ o vs n (by rw [← hb]; exact e)) hv
      refine wpAny_mono (hbody _ φ' _ v (by exact R) S₄ hv') (fun _ s₅ ⟨φ₅, m₅, ps₅, q₅, S₅, x₅⟩ => ?_) noE
      refine wpAny_mono (q₅ _ φ₅ s₅ (by exact R) S₅) (fun f s₆ ⟨φ₆, a, m₆, ps₆, q₆, S₆, hf, x₆⟩ => ?_) noE
      have xx := (x₄.trans x₅).trans x₆
      have x56 := x₅.trans x₆
      have cont : J (i + 1) m₆ ps₆ → ∃ j, j < N - i ∧ ∃ φ' m' ps' i, i ≤ N ∧ j = N - i ∧ J i m' ps' ∧ IT φ' i s₆.heap ∧ St C φ' m' ps' s₆ ∧ Ext C.W φ φ' s.heap s₆.heap ∧ I ∉ φ' := fun hJ => by
        obtain ⟨oI', hoI', _⟩ := W.there _ (i + 1) _ hIT''
        have hW : ¬ C.W I := fun hw => by
          rcases Ctx.W.cell C hw with e | e
          · exact ap.loc e
          · exact ap.cell e
        refine ⟨N - (i + 1), by omega, φ₆, m₆, ps₆, i + 1, hi, rfl, hJ, W.move _ _ _ _ _ _ hIT'' x56.toMv S₄.noSeq fun o e => x56.keep I o e hIφ' hW, S₆, xx, x56.notMem hoI' hIφ'⟩
      cases a with
      | next => rw [show f = .next from hf]; exact cont q₆
      | cont => rw [show f = .cont from hf]; exact cont q₆
      | brk => rw [show f = .brk from hf]; exact ⟨φ₆, .next, m₆, ps₆, q₆, S₆, rfl, xx⟩
      | ret p => obtain ⟨v, rfl, hv⟩ := hf; exact ⟨φ₆, .ret p, m₆, ps₆, q₆, S₆, ⟨v, rfl, hv⟩, xx⟩
  · rintro r s' hr
    cases r with
    | ok f => exact hr
    | error e => exact hr.elim

/-! ## range -/
theorem apart_size (S : St C φ m ps s) {h₂ : Heap} (hk : ∀ b o, s.heap.get? b = some o → h₂.get? b = some o) : Apart C h₂.objs.size ∧ h₂.objs.size ∉ φ ∧ s.heap.get? h₂.objs.size = none := by
  have no : ∀ b o, s.heap.get? b = some o → b ≠ h₂.objs.size := fun b o e e' => by
    exact absurd (e' ▸ Heap.lt_size (hk b o e)) (Nat.lt_irrefl _)
  refine ⟨⟨fun e => ?_, fun hc => ?_, ?_⟩, fun hm => ?_, ?_⟩
  · obtain ⟨ml, ⟨o, _, _, ho, _⟩, _⟩ := S.loc
    exact no _ o ho e.symm
  · obtain ⟨v, o, ho, _⟩ := S.cell hc
    exact no _ o ho rfl
  · cases hq : C.h0.get? h₂.objs.size with
    | none => rfl
    | some o => exact absurd rfl (no _ o (S.base _ o hq))
  · obtain ⟨k, hk'⟩ := List.mem_iff_getElem?.mp hm
    have hlt : k < ps.length := by rw [S.len]; exact (List.getElem?_eq_some_iff.mp hk').1
    obtain ⟨o, ho⟩ := (S.objs k _ ps[k] hk' (List.getElem?_eq_getElem hlt)).there
    exact no _ o ho rfl
  · cases hq : s.heap.get? h₂.objs.size with
    | none => rfl
    | some o => exact absurd rfl (no _ o hq)

def rngN (k : Int) (i : Nat) (_ : List PO) : Option PV := if (i : Int) < k then some (.int i) else none

theorem iter_range {target : Expr} {I : Addr} {k : Int} (ht : ∀ it v, letOwnedTupleGo target it v = pure ()) :
    Iter C.toBase n target I (rngN k) (fun _ => True) (fun _ i h => IsRangeIter h I i (if (i : Int) ≤ max k 0 then max k 0 - i else 0) 1) (fun _ i v h => IsRangeIter h I (i + 1 : Nat) (if ((i + 1 : Nat) : Int) ≤ max k 0 then max k 0 - (i + 1 : Nat) else 0) 1) where
  there := fun _ i h e => ⟨_, e, fun vs n e => by cases e⟩
  move := fun _ _ _ i h h' e _ _ k => k _ e
  thereM := fun _ i v h e => ⟨_, e, fun vs n e => by cases e⟩
  item := fun A φ ps s i p Q E R S hI hit _ hn hQ => by
    unfold rngN at hn
    split at hn
    · rename_i hlt
      cases hn
      refine wpAny_pyNext_range_item hit (by split <;> omega) fun h' hit' hs => hQ _ h' _ ?_ vr_int hs.extBut
      have e1 : ((i : Int) + 1) = ((i + 1 : Nat) : Int) := by omega
      have e2 : (if (i : Int) ≤ max k 0 then max k 0 - (i : Int) else 0) - 1 = (if ((i + 1 : Nat) : Int) ≤ max k 0 then max k 0 - ((i + 1 : Nat) : Int) else 0) := by split <;> split <;> omega
      rw [e1, e2] at hit'
      exact hit'
    · cases hn
  go := fun A s φ i v Q E hM hQ => wpAny_of_eq (ht _ _) (hQ s.heap hM (Heap.ExtBut.refl _ _))
  self := fun A s φ i Q E hit q => by
    have hT : s.TypeIs (.ref I) "range_iterator" := ⟨_, hit, rfl⟩
    exact wpAny_pyIter_rangeiter hit q
  stop := fun A φ ps s i Q E R S hI hit _ hn hQ => by
    unfold rngN at hn
    split at hn
    · cases hn
    · refine wpAny_pyNext_range_end R.1 hit (by split <;> omega) fun h' hx => hQ h' _ hx

theorem AIt_range {target e : Expr} {rx : Str} {px pos : Pos} {K : (Nat → List PO → Option PV) → (List PO → Prop) → List PO → Prop} (hk : C.env.kindOf rx = some .globalImplicit) (hg : GLook C.toBase rx (.type "range"))
    (h : AE C n e m ps fun p ps₁ => ∃ k, p = .int k ∧ -(2 ^ 60) ≤ k ∧ k < 2 ^ 60 ∧ K (rngN k) (fun _ => True) ps₁)
    (hx : (rx == ("__debug__" : Str)) = false := by decide) (he : starEach [e] C.env = [(false, eval e C.env)] := by rfl)
    (ht : ∀ it v, letOwnedTupleGo target it v = pure () := by intro _ _; rfl) : AIt C n target (.Call (.Name rx px) [e] [] pos) m ps K := by
  intro A φ s R S
  show wpAny _ _ (eval (.Name rx px) C.env >>= fun f => callWith pos f [] (backTo pos (starEach [e] C.env)) []) _ _ s
  refine wpAny_bind (wpAny_global S hk hg ?_ hx)
  rw [he]
  refine PySem.callWith_type rfl ?_
  refine evalArgs_plain ?_
  rw [spliced]
  refine wpAny_bind (wpAny_mono (h A φ s R S) (fun v s₁ ⟨φ₁, p, ps₁, ⟨k, hp, hk1, hk2, hK⟩, S₁, hv, x₁⟩ => ?_) noE)
  subst hp
  obtain ⟨t, rfl⟩ := VR.int_inv hv
  simp only [Bool.false_eq_true, if_false]
  refine wpAny_bind (wpAny_pure (wpAny_bind (wpAny_holding (wpAny_pure (wpAny_pure ?_)))))
  show wpAny _ _ (call (.type "range") [.int k t]) _ _ s₁
  refine call_range_1 ?_
  refine ⟨φ₁, ps₁, S₁.push _ _, x₁.trans (Ext.push _), ?_⟩
  have hr := IsRange.new s₁.heap 0 k 1 s₁.toks t (s₁.toks + 1)
  refine wpAny_pyIter_range hr (small_one (by omega) (by omega) (by omega) (by omega)) ?_
  have hkk : ∀ b o, s₁.heap.get? b = some o → ((s₁.heap.push { cls := .type "range", data := .fields #[.int 0 s₁.toks, .int k t, .int 1 (s₁.toks + 1)] }).get? b) = some o := fun b o e => Heap.get?_push_of_some _ e
  obtain ⟨ap, hI, hf⟩ := apart_size S₁ hkk
  refine ⟨_, rngN k, fun _ => True, _, _, rfl, iter_range (k := k) ht, ?_, hK, (S₁.push _ _).push _ _, Ext.push _, get_size _, ap, hI⟩
  · have := Heap.get?_push_size (s₁.heap.push { cls := .type "range", data := .fields #[.int 0 s₁.toks, .int k t, .int 1 (s₁.toks + 1)] }) (o := { cls := .type "range_iterator", data := .fields #[rawInt 0, rawInt (Builtin.Range.rangeSize 0 k 1), rawInt 1] }) rfl
    rw [show (if ((0 : Nat) : Int) ≤ max k 0 then max k 0 - ((0 : Nat) : Int) else 0) = Builtin.Range.rangeSize 0 k 1 from by rw [rangeSize_one]; split <;> split <;> omega]
    exact this

/-! ## a list, tracked or not -/
def lstN (p : PV) (i : Nat) (ps : List PO) : Option PV := (contents ps p).bind (·[i]?)

theorem iter_list {target : Expr} {I a : Addr} {p : PV} (ht : ∀ i v (A : Around) (s : Shared) (Q : Unit → Shared → Prop) (E : Value → Shared → Prop), s.heap.IsListIter I a i → Q () s → wpAny (model C.prog C.w) A (letOwnedTupleGo target (.ref I) v) Q E s) :
    Iter C.toBase n target I (lstN p) (fun ps => (contents ps p).isSome = true) (fun φ i h => h.IsListIter I a i ∧ VR φ h p (.ref a)) (fun φ i v h => h.IsListIter I a (i + 1) ∧ VR φ h p (.ref a)) where
  there := fun _ i h ⟨⟨o, e, _, hd⟩, _⟩ => ⟨o, e, fun vs n e' => by rw [hd] at e'; cases e'⟩
  move := fun _ _ _ i h h' ⟨x, r⟩ mv ns k => ⟨x.at k, VR.ext mv ns r⟩
  thereM := fun _ i v h ⟨⟨o, e, _, hd⟩, _⟩ => ⟨o, e, fun vs n e' => by rw [hd] at e'; cases e'⟩
  item := fun A φ ps s i q Q E R S hI ⟨hit, hr⟩ hok hn hQ => by
    unfold lstN at hn
    cases hc : contents ps p with
    | none => rw [hc] at hn; cases hn
    | some l =>
      rw [hc] at hn
      obtain ⟨a', vs, e, ho, hl⟩ := S.list hr hc
      cases e
      obtain ⟨v, hv, hvr⟩ := hl.get (i := i) hn
      have ns : NoSeq (fun b => b = I) s.heap := fun b hb o vs' n' eo ed => by
        obtain ⟨o', eo', _, hd⟩ := hit
        rw [hb, eo'] at eo; cases eo; rw [hd] at ed; cases ed
      refine wpAny_pyNext_list_item hit ho.isList (by rw [← Array.getElem?_toList]; exact hv) fun h' hit' hs => ?_
      have mv : Mv (fun b => b = I) φ φ s.heap h' := Mv.iter hs.extBut
      exact hQ v h' s.toks ⟨hit', VR.ext mv ns hr⟩ (VR.ext mv ns hvr) hs.extBut
  go := fun A s φ i v Q E ⟨x, r⟩ hQ => ht (i + 1) v A s Q E x (hQ s.heap ⟨x, r⟩ (Heap.ExtBut.refl _ _))
  self := fun A s φ i Q E ⟨hit, _⟩ q => wpAny_pyIter_listiter hit q
  stop := fun A φ ps s i Q E R S hI ⟨hit, hr⟩ hok hn hQ => by
    unfold lstN at hn
    cases hc : contents ps p with
    | none => rw [hc] at hok; cases hok
    | some l =>
      rw [hc] at hn
      obtain ⟨a', vs, e, ho, hl⟩ := S.list hr hc
      cases e
      refine wpAny_pyNext_list_end R.1 hit ho.isList ?_ fun h' hx => hQ h' s.toks hx
      rw [← Array.getElem?_toList]
      have hn' : l[i]? = none := hn
      rw [List.getElem?_eq_none_iff] at hn' ⊢
      rw [hl.length]; exact hn'

theorem AIt_list {target iter : Expr} {K : (Nat → List PO → Option PV) → (List PO → Prop) → List PO → Prop}
    (h : AE C n iter m ps fun p ps₁ => (contents ps₁ p).isSome = true ∧ K (lstN p) (fun ps => (contents ps p).isSome = true) ps₁)
    (ht : ∀ I a i v (A : Around) (s : Shared) (Q : Unit → Shared → Prop) (E : Value → Shared → Prop), s.heap.IsListIter I a i → Q () s → wpAny (model C.prog C.w) A (letOwnedTupleGo target (.ref I) v) Q E s) : AIt C n target iter m ps K := by
  intro A φ s R S
  refine wpAny_mono (h A φ s R S) (fun v s₁ ⟨φ₁, p, ps₁, ⟨hc, hK⟩, S₁, hv, x₁⟩ => ?_) noE
  cases hc' : contents ps₁ p with
  | none => rw [hc'] at hc; cases hc
  | some l =>
    obtain ⟨a, vs, rfl, ho, hl⟩ := S₁.list hv hc'
    refine ⟨φ₁, ps₁, S₁, x₁, ?_⟩
    refine wpAny_pyIter_list ho.isList ?_
    obtain ⟨ap, hI, hf⟩ := apart_size S₁ (h₂ := s₁.heap) (fun _ _ e => e)
    exact ⟨_, lstN p, _, _, _, rfl, iter_list (a := a) (p := p) (ht _ _), ⟨⟨_, Heap.get?_push_size _ rfl, rfl, rfl⟩, S₁.vr (Ext.push _) hv⟩, hK, S₁.push _ _, Ext.push _, hf, ap, hI⟩

theorem go_name {x : Str} {px : Pos} : ∀ I a i v (A : Around) (s : Shared) (Q : Unit → Shared → Prop) (E : Value → Shared → Prop), s.heap.IsListIter I a i → Q () s → wpAny (model C.prog C.w) A (letOwnedTupleGo (.Name x px) (.ref I) v) Q E s :=
  fun _ _ _ _ _ _ _ _ _ q => wpAny_pure q
theorem go_tuple {elts : List Expr} {k : Nat} {pos : Pos} : ∀ I a i v (A : Around) (s : Shared) (Q : Unit → Shared → Prop) (E : Value → Shared → Prop), s.heap.IsListIter I a i → Q () s → wpAny (model C.prog C.w) A (letOwnedTupleGo (.Tuple elts k pos) (.ref I) v) Q E s := by
  intro I a i v A s Q E hit q
  cases v with
  | ref T => exact wpAny_letOwnedTupleGo_listiter hit q
  | _ => exact wpAny_pure q
end Mine

namespace Mine
open PySem PySem.Calls PyProof.Rows PySem.W PySem.SeqAt PySem.Spec

variable {C : Ctx} {n : Nat} {φ φ' : List Addr} {m : List (Option PV)} {ps : List PO} {s : Shared} {h h' : Heap}

/-! ## the frame of a comprehension -/
theorem cellsFrom_acc : ∀ (names : List (Str × NameKind)) (k : Nat) (acc : List (Str × Addr)), cellsFrom k names acc = cellsFrom k names [] ++ acc
  | [], _, acc => rfl
  | (x, kd) :: r, k, acc => by
    unfold cellsFrom
    by_cases hk : (kd == .cell) = true
    · rw [if_pos hk, if_pos hk, cellsFrom_acc r (k + 1) ((x, k) :: acc), cellsFrom_acc r (k + 1) [(x, k)], List.append_assoc]; rfl
    · rw [if_neg hk, if_neg hk]; exact cellsFrom_acc r k acc
theorem cellsFrom_kind : ∀ (names : List (Str × NameKind)) (k : Nat) (x : Str) (c : Addr), (x, c) ∈ cellsFrom k names [] → (x, NameKind.cell) ∈ names
  | [], _, _, _, hm => by simp [cellsFrom] at hm
  | (y, kd) :: r, k, x, c, hm => by
    unfold cellsFrom at hm
    by_cases hk : (kd == .cell) = true
    · rw [if_pos hk, cellsFrom_acc] at hm
      rcases List.mem_append.mp hm with hm | hm
      · exact List.mem_cons_of_mem _ (cellsFrom_kind r _ x c hm)
      · simp at hm; obtain ⟨rfl, rfl⟩ := hm
        rw [beq_iff_eq.mp hk]; exact List.mem_cons_self
    · rw [if_neg hk] at hm; exact List.mem_cons_of_mem _ (cellsFrom_kind r _ x c hm)

def clF (env : Env) : List (Str × NameKind) → List (Str × Addr) → List (Str × Addr)
  | [], acc => acc
  | (x, kd) :: r, acc => if kd == .free then clF env r ((x, (env.cells.lookup x).getD 0) :: acc) else clF env r acc

theorem clF_forIn {env : Env} (f : Str × NameKind → List (Str × Addr) → Sem (ForInStep (List (Str × Addr))))
    (hf : ∀ x k cs, f (x, k) cs = if k == .free then (do let c ← cellOf env x; pure (.yield ((x, c) :: cs))) else pure (.yield cs)) :
    ∀ (names : List (Str × NameKind)) (acc : List (Str × Addr)), (∀ x ∈ names, x.2 = .free → (env.cells.lookup x.1).isSome = true) → forIn names acc f = pure (clF env names acc)
  | [], acc, _ => by rw [List.forIn_nil]; rfl
  | (x, kd) :: r, acc, h => by
    rw [List.forIn_cons, hf]
    unfold clF
    have hr := fun a => clF_forIn f hf r a fun y hy => h y (List.mem_cons_of_mem _ hy)
    by_cases hk : (kd == .free) = true
    · rw [if_pos hk, if_pos hk]
      obtain ⟨c, hc⟩ := Option.isSome_iff_exists.mp (h (x, kd) List.mem_cons_self (beq_iff_eq.mp hk))
      have hc' : env.cells.lookup x = some c := hc
      unfold cellOf
      rw [hc']
      exact hr _
    · rw [if_neg hk, if_neg hk]
      exact hr _
theorem closureFor_clF {env : Env} {scope : Scope} (h : ∀ x ∈ scope.names, x.2 = .free → (env.cells.lookup x.1).isSome = true) : closureFor scope env = pure (clF env scope.names []) := by
  unfold closureFor
  have := clF_forIn (env := env) (fun x r => if x.2 == .free then (do let c ← cellOf env x.1; pure (.yield ((x.1, c) :: r))) else pure (.yield r)) (fun _ _ _ => rfl) scope.names [] h
  rw [show (pure (clF env scope.names []) : Sem (List (Str × Addr))) = (pure (clF env scope.names []) >>= fun cs => pure cs) from rfl, ← this]
theorem clF_lookup {env : Env} {x : Str} : ∀ (names : List (Str × NameKind)) (acc : List (Str × Addr)), (names.map (·.1)).Nodup → (x, NameKind.free) ∈ names → (clF env names acc).lookup x = some ((env.cells.lookup x).getD 0) := by
  have keep : ∀ (names : List (Str × NameKind)) (acc : List (Str × Addr)), x ∉ names.map (·.1) → (clF env names acc).lookup x = acc.lookup x := by
    intro names
    induction names with
    | nil => intro acc _; rfl
    | cons y r ih =>
      intro acc hx
      obtain ⟨y, kd⟩ := y
      rw [List.map_cons, List.mem_cons, not_or] at hx
      unfold clF
      by_cases hk : (kd == .free) = true
      · rw [if_pos hk, ih _ hx.2, List.lookup_cons, beq_eq_false_iff_ne.mpr hx.1]
      · rw [if_neg hk, ih _ hx.2]
  intro names
  induction names with
  | nil => intro acc _ hm; cases hm
  | cons y r ih =>
    intro acc hn hm
    obtain ⟨y, kd⟩ := y
    rw [List.map_cons, List.nodup_cons] at hn
    unfold clF
    rcases List.mem_cons.mp hm with e | hm
    · cases e
      rw [if_pos (show (NameKind.free == NameKind.free) = true by decide), keep _ _ hn.1, List.lookup_cons]; simp
    · by_cases hk : (kd == .free) = true
      · rw [if_pos hk]; exact ih _ hn.2 hm
      · rw [if_neg hk]; exact ih _ hn.2 hm

def cEnv (scope : Scope) (L : Addr) (env : Env) : Env :=
  { scope := relabel scope env, locals := L, globals := env.globals, cells := cellsFrom (L + 1) scope.names (clF env scope.names []), qual := env.qual, func := none, code := env.code, frame := env.frame, builtins := env.builtins }

theorem wpAny_compEnv {M : Model} {A : Around} {E : Value → Shared → Prop} {scope : Scope} {env : Env} {Q : Env → Shared → Prop}
    (hQ : ∀ h', (∀ b o, s.heap.get? b = some o → h'.get? b = some o) → h'.Ns s.heap.objs.size (fun _ => none) → CellsOk h' (s.heap.objs.size + 1) (cellsFrom (s.heap.objs.size + 1) scope.names []) →
      ∀ env', env'.locals = s.heap.objs.size → { env' with scope := relabel scope env } = cEnv scope s.heap.objs.size env → Q env' { s with heap := h' }) :
    wpAny M A (newFunctionEnv scope env.globals (clF env scope.names []) [] env.qual none .none (some env)) Q E s := by
  simp only [newFunctionEnv, Option.isSome_some, if_true]
  refine wpAny_bind (wpAny_alloc ?_)
  refine wpAny_bind (wpAny_layCells _ (fun name kind cells => by cases hkc : kind == NameKind.cell <;> simp [hkc]) _ _ _ _ ?_)
  have ok := cellsFrom_ok scope.names (s.heap.push { cls := .type "dict", data := .dict #[] }) (s.heap.objs.size + 1) [] ⟨fun _ _ hm => (nomatch hm), List.Pairwise.nil⟩ (by rw [Heap.size_push]; exact Nat.le_refl _)
  rw [Heap.size_push] at ok
  refine wpAny_bind ?_
  rw [List.forIn_nil]
  refine wpAny_pure (wpAny_pure (hQ _ (fun b o e => pushCells_keeps _ _ b o (Heap.get?_push_of_some _ e)) ((Heap.Ns.new s.heap (.type "dict")).keeps (pushCells_keeps _ _)) ok _ rfl ?_))
  simp only [cEnv]
  rw [Heap.size_push]
end Mine

namespace Mine
open PySem PySem.Calls PyProof.Rows PySem.W PySem.SeqAt PySem.Spec

variable {C : Ctx} {n : Nat} {φ φ' : List Addr} {m : List (Option PV)} {ps : List PO} {s : Shared} {h h' : Heap}

def cLayAt (C : Ctx) (sc : Scope) (L : Addr) (x : Str × NameKind) : Option (Str × Slot) :=
  match x.2 with
  | .local => some (x.1, .loc)
  | .cell => ((cellsFrom (L + 1) sc.names []).lookup x.1).map fun c => (x.1, .own c)
  | .free => match slotAt C x.1 with
    | some y => y.2.cell?.map fun c => (x.1, .cap c)
    | none => none
  | _ => none
def cCtx (C : Ctx) (sc : Scope) (L : Addr) : Ctx := { toBase := C.toBase, env := cEnv sc L C.env, D := sc.names.filterMap (cLayAt C sc L) }
def cMOf (C : Ctx) (m : List (Option PV)) (D : List (Str × Slot)) : List (Option PV) := D.map fun y => match y.2 with
  | .cap _ => lk C m y.1
  | _ => none
def cM (C : Ctx) (sc : Scope) (L : Addr) (m : List (Option PV)) : List (Option PV) := cMOf C m (sc.names.filterMap (cLayAt C sc L))
def compOkB (C : Ctx) (sc : Scope) : Bool :=
  decide (sc.kind = .function) && decide ((sc.names.map (·.1)).Nodup) && sc.names.all fun x => x.2 != .free || (match slotAt C x.1 with | some y => y.2.cell?.isSome | none => false)

theorem cLayAt_fst {C : Ctx} {sc : Scope} {L : Addr} {x : Str × NameKind} {y : Str × Slot} (e : cLayAt C sc L x = some y) : y.1 = x.1 := by
  unfold cLayAt at e
  obtain ⟨x1, k⟩ := x
  cases k <;> simp only at e
  · cases e; rfl
  · cases hq : (cellsFrom (L + 1) sc.names []).lookup x1 with
    | none => rw [hq] at e; cases e
    | some c => rw [hq] at e; cases e; rfl
  · cases hq : slotAt C x1 with
    | none => rw [hq] at e; cases e
    | some y' =>
      rw [hq] at e
      simp only at e
      cases hc : y'.2.cell? with
      | none => rw [hc] at e; cases e
      | some c => rw [hc] at e; cases e; rfl
  all_goals cases e

theorem nodup_filterMap {α β : Type} {f : Str × α → Option (Str × β)} (hf : ∀ x y, f x = some y → y.1 = x.1) : ∀ {l : List (Str × α)}, (l.map (·.1)).Nodup → ((l.filterMap f).map (·.1)).Nodup
  | [], _ => by simp
  | x :: r, hn => by
    rw [List.map_cons, List.nodup_cons] at hn
    rw [List.filterMap_cons]
    cases hx : f x with
    | none => exact nodup_filterMap hf hn.2
    | some y =>
      rw [List.map_cons, List.nodup_cons]
      refine ⟨fun hm => hn.1 ?_, nodup_filterMap hf hn.2⟩
      obtain ⟨z, hz, e⟩ := List.mem_map.mp hm
      obtain ⟨x', hx', e'⟩ := List.mem_filterMap.mp hz
      have e'' : z.1 = y.1 := e
      rw [hf _ _ e', hf _ _ hx] at e''
      rw [← e'']
      exact List.mem_map_of_mem hx'

theorem relabel_lookup {env : Env} {x : Str} {k : NameKind} : ∀ {names : List (Str × NameKind)}, names.lookup x = some k →
    (names.map fun (n, k) => if (k == NameKind.free && env.scope.kind == .function && env.kindOf n == some .cell) then (n, NameKind.cell) else (n, k)).lookup x =
      some (if (k == NameKind.free && env.scope.kind == .function && env.kindOf x == some .cell) then NameKind.cell else k)
  | [], h => by simp at h
  | (n, k') :: r, h => by
    rw [List.lookup_cons] at h
    rw [List.map_cons]
    cases hx : x == n with
    | true =>
      rw [hx] at h
      cases h
      have : x = n := beq_iff_eq.mp hx
      subst this
      dsimp only
      split <;> simp [List.lookup_cons]
    | false =>
      rw [hx] at h
      have ih := relabel_lookup (env := env) h
      dsimp only
      split <;> (rw [List.lookup_cons, hx]; exact ih)

theorem lookup_append {β : Type} {x : Str} : ∀ {l l' : List (Str × β)}, (l ++ l').lookup x = (l.lookup x).or (l'.lookup x)
  | [], l' => by simp
  | (y, b) :: r, l' => by
    rw [List.cons_append, List.lookup_cons, List.lookup_cons]
    cases x == y with
    | true => rfl
    | false => exact lookup_append

theorem St.comp (S : St C φ m ps s) {sc : Scope} (hc : compOkB C sc = true) (hk : ∀ b o, s.heap.get? b = some o → h'.get? b = some o) (hns : h'.Ns s.heap.objs.size (fun _ => none))
    (hco : CellsOk h' (s.heap.objs.size + 1) (cellsFrom (s.heap.objs.size + 1) sc.names [])) :
    St (cCtx C sc s.heap.objs.size) φ (cM C sc s.heap.objs.size m) ps { s with heap := h' } ∧ (∀ a, (cCtx C sc s.heap.objs.size).W a → s.heap.objs.size ≤ a) := by
  simp only [compOkB, Bool.and_eq_true, decide_eq_true_eq, List.all_eq_true, Bool.or_eq_true, bne_iff_ne] at hc
  obtain ⟨⟨hkind, hnd⟩, hfree⟩ := hc
  have lay : ∀ y ∈ (cCtx C sc s.heap.objs.size).D, ∃ k, (y.1, k) ∈ sc.names ∧ cLayAt C sc s.heap.objs.size (y.1, k) = some y := by
    intro y hy
    obtain ⟨x, hx, e⟩ := List.mem_filterMap.mp hy
    have := cLayAt_fst e
    obtain ⟨x1, k⟩ := x
    have h1 : y.1 = x1 := this
    subst h1
    exact ⟨k, hx, e⟩
  have free : ∀ x, (x, NameKind.free) ∈ sc.names → ∃ y c, slotAt C x = some y ∧ y ∈ C.D ∧ y.1 = x ∧ y.2.cell? = some c ∧ C.env.cells.lookup x = some c ∧ (C.env.kindOf x = some .cell ∨ C.env.kindOf x = some .free) := by
    intro x hx
    rcases hfree _ hx with e | e
    · exact absurd rfl e
    · cases hs : slotAt C x with
      | none => rw [hs] at e; cases e
      | some y =>
        rw [hs] at e
        obtain ⟨c, hc⟩ := Option.isSome_iff_exists.mp e
        have hy : y ∈ C.D := List.mem_of_getElem? hs
        have h1 := ixOf_spec hs
        have hst := S.ok.stat y hy
        refine ⟨y, c, rfl, hy, h1, hc, ?_⟩
        obtain ⟨y1, y2⟩ := y
        have h1' : y1 = x := h1
        subst h1'
        cases y2 with
        | loc => cases hc
        | own c' => cases hc; exact ⟨hst.2.1, .inl hst.1⟩
        | cap c' => cases hc; exact ⟨hst.2.1, hst.1⟩
  have kinds : ∀ y ∈ (cCtx C sc s.heap.objs.size).D,
      (y.2 = .loc ∧ sc.names.lookup y.1 = some .local) ∨ (∃ c, y.2 = .own c ∧ sc.names.lookup y.1 = some .cell ∧ (cellsFrom (s.heap.objs.size + 1) sc.names []).lookup y.1 = some c) ∨
      (∃ c z, y.2 = .cap c ∧ sc.names.lookup y.1 = some .free ∧ (y.1, NameKind.free) ∈ sc.names ∧ slotAt C y.1 = some z ∧ z.2.cell? = some c) := by
    intro y hy
    obtain ⟨k, h1, h2⟩ := lay y hy
    have hl := lookup_of_nodup hnd h1
    unfold cLayAt at h2
    obtain ⟨y1, y2⟩ := y
    cases k <;> simp only at h2
    · cases h2; exact .inl ⟨rfl, hl⟩
    · cases hq : (cellsFrom (s.heap.objs.size + 1) sc.names []).lookup y1 with
      | none => rw [hq] at h2; cases h2
      | some c => rw [hq] at h2; cases h2; exact .inr (.inl ⟨c, rfl, hl, rfl⟩)
    · cases hq : slotAt C y1 with
      | none => rw [hq] at h2; cases h2
      | some z =>
        rw [hq] at h2
        simp only at h2
        cases hc : z.2.cell? with
        | none => rw [hc] at h2; cases h2
        | some c => rw [hc] at h2; cases h2; exact .inr (.inr ⟨c, z, rfl, hl, h1, rfl, hc⟩)
    all_goals cases h2
  have ownUp : ∀ x c, (cellsFrom (s.heap.objs.size + 1) sc.names []).lookup x = some c → s.heap.objs.size + 1 ≤ c ∧ h'.IsCell c none := fun x c e => ⟨(hco.empty x c (mem_of_lookup e)).2, (hco.empty x c (mem_of_lookup e)).1⟩
  have capLt : ∀ x y c, slotAt C x = some y → y.2.cell? = some c → c < s.heap.objs.size := fun x y c e1 e2 => by
    obtain ⟨v, hv⟩ := S.cell (c := c) ⟨y, List.mem_of_getElem? e1, e2⟩
    exact hv.lt
  have cellsEq : ∀ x, (cCtx C sc s.heap.objs.size).env.cells.lookup x = ((cellsFrom (s.heap.objs.size + 1) sc.names []).lookup x).or ((clF C.env sc.names []).lookup x) := fun x => by
    show (cellsFrom (s.heap.objs.size + 1) sc.names (clF C.env sc.names [])).lookup x = _
    rw [cellsFrom_acc, lookup_append]
  have WUp : ∀ a, (cCtx C sc s.heap.objs.size).W a → s.heap.objs.size ≤ a := by
    intro a ha
    rcases ha with ha | ⟨x, hx⟩
    · exact Nat.le_of_eq ha.symm
    · rcases kinds _ hx with ⟨e, _⟩ | ⟨c, e, _, hq⟩ | ⟨c, z, e, _⟩
      · cases e
      · cases e; exact Nat.le_of_lt (ownUp x a hq).1
      · cases e
  have out : ∀ a, s.heap.objs.size ≤ a → a ∉ φ := by
    intro a ha hm
    obtain ⟨k, hk⟩ := List.mem_iff_getElem?.mp hm
    have hlt : k < ps.length := by rw [S.len]; exact (List.getElem?_eq_some_iff.mp hk).1
    obtain ⟨o, ho⟩ := (S.objs k _ ps[k] hk (List.getElem?_eq_getElem hlt)).there
    exact absurd (Heap.lt_size ho) (Nat.not_lt.mpr ha)
  have out0 : ∀ a, s.heap.objs.size ≤ a → C.h0.get? a = none := by
    intro a ha
    cases hq : C.h0.get? a with
    | none => rfl
    | some o => exact absurd (Heap.lt_size (S.base a o hq)) (Nat.not_lt.mpr ha)
  have mv : Ext (fun _ => False) φ φ s.heap h' := Ext.ofKeep hk
  have noW : NoSeq (fun _ => False) s.heap := fun b hb => hb.elim
  have ok : (cCtx C sc s.heap.objs.size).Ok := by
    refine ⟨hkind, S.ok.glob, S.ok.bui, fun y hy => ?_, nodup_filterMap (fun x y e => cLayAt_fst e) hnd, fun y z c hy hz e1 e2 => ?_⟩
    · have hkd : ∀ k, sc.names.lookup y.1 = some k → (cCtx C sc s.heap.objs.size).env.kindOf y.1 = some (if (k == NameKind.free && C.env.scope.kind == .function && C.env.kindOf y.1 == some .cell) then NameKind.cell else k) := fun k e => relabel_lookup e
      obtain ⟨y1, y2⟩ := y
      rcases kinds _ hy with ⟨e, hl⟩ | ⟨c, e, hl, hq⟩ | ⟨c, z, e, hl, hm, hz, hzc⟩
      · have e' : y2 = .loc := e
        subst e'
        exact hkd _ hl
      · have e' : y2 = .own c := e
        subst e'
        refine ⟨hkd _ hl, by rw [cellsEq, hq]; rfl, Nat.ne_of_gt (ownUp _ _ hq).1⟩
      · have e' : y2 = .cap c := e
        subst e'
        obtain ⟨y', c', h1, h2, h3, h4, h5, h6⟩ := free y1 hm
        have hz' : slotAt C y1 = some z := hz
        rw [h1] at hz'; cases hz'
        rw [h4] at hzc; cases hzc
        refine ⟨?_, ?_, Nat.ne_of_lt (capLt _ _ _ h1 h4)⟩
        · rw [hkd _ hl]
          rcases h6 with h6 | h6
          · left; simp [h6, S.ok.kind]
          · right; simp [h6]
        · rw [cellsEq]
          have : (cellsFrom (s.heap.objs.size + 1) sc.names []).lookup y1 = none := by
            cases hq : (cellsFrom (s.heap.objs.size + 1) sc.names []).lookup y1 with
            | none => rfl
            | some c => have := lookup_of_nodup hnd (cellsFrom_kind _ _ _ _ (mem_of_lookup hq)); rw [show sc.names.lookup y1 = _ from hl] at this; cases this
          rw [this, clF_lookup _ _ hnd hm, h5]; rfl
    · rcases kinds y hy with ⟨e, _⟩ | ⟨c1, e, hl1, hq1⟩ | ⟨c1, w1, e, hl1, hm1, hw1, hc1⟩
      · rw [e] at e1; cases e1
      · rw [e] at e1; cases e1
        rcases kinds z hz with ⟨e', _⟩ | ⟨c2, e', hl2, hq2⟩ | ⟨c2, w2, e', hl2, hm2, hw2, hc2⟩
        · rw [e'] at e2; cases e2
        · rw [e'] at e2; cases e2
          exact Prod.ext (name_of_addr hco.apart (mem_of_lookup hq1) (mem_of_lookup hq2)) (e.trans e'.symm)
        · rw [e'] at e2; cases e2
          have a1 := (ownUp _ _ hq1).1
          have a2 := capLt _ _ _ hw2 hc2
          exact absurd a1 (Nat.not_le.mpr (Nat.lt_succ_of_lt a2))
      · rw [e] at e1; cases e1
        rcases kinds z hz with ⟨e', _⟩ | ⟨c2, e', hl2, hq2⟩ | ⟨c2, w2, e', hl2, hm2, hw2, hc2⟩
        · rw [e'] at e2; cases e2
        · rw [e'] at e2; cases e2
          have a1 := (ownUp _ _ hq2).1
          have a2 := capLt _ _ _ hw1 hc1
          exact absurd a1 (Nat.not_le.mpr (Nat.lt_succ_of_lt a2))
        · rw [e'] at e2; cases e2
          have := S.ok.apart w1 w2 _ (List.mem_of_getElem? hw1) (List.mem_of_getElem? hw2) hc1 hc2
          have n1 := ixOf_spec hw1
          have n2 := ixOf_spec hw2
          exact Prod.ext (n1.symm.trans ((congrArg Prod.fst this).trans n2)) (e.trans e'.symm)
  refine ⟨⟨ok, fun b o e => hk b o (S.base b o e), fun a ha => ?_, S.nd, S.len, fun k a po ha hp => OR.move mv.toMv noW (fun o e => hk a o e) (S.objs k a po ha hp), fun a ha => ?_, ?_, ?_, S.gens, S.os, S.mod, S.lim⟩, WUp⟩
  · rcases ha with ha | ha
    · exact S.new a (.inl ha)
    · exact out0 a (WUp a ha)
  · rcases ha with rfl | ⟨y, hy, e⟩
    · exact out _ (Nat.le_refl _)
    · rcases kinds y hy with ⟨e', _⟩ | ⟨c, e', _, hq⟩ | ⟨c, z, e', _, _, hz, hzc⟩
      · rw [e'] at e; cases e
      · rw [e'] at e; cases e; exact out a (Nat.le_of_lt (ownUp _ _ hq).1)
      · rw [e'] at e; cases e; exact S.off a (.inr ⟨z, List.mem_of_getElem? hz, hzc⟩)
  · refine ⟨_, hns, fun i y ov hy hov => ?_⟩
    have hym := List.mem_of_getElem? hy
    have hov' : ov = (match y.2 with | .cap _ => lk C m y.1 | _ => none) := by
      unfold cM cMOf at hov
      rw [List.getElem?_map, show (sc.names.filterMap (cLayAt C sc s.heap.objs.size))[i]? = some y from hy] at hov
      exact (Option.some.inj hov).symm
    obtain ⟨y1, y2⟩ := y
    rcases kinds _ hym with ⟨e, _⟩ | ⟨c, e, _, hq⟩ | ⟨c, z, e, _, _, hz, hzc⟩
    · have e' : y2 = .loc := e
      subst e' hov'
      trivial
    · have e' : y2 = .own c := e
      subst e' hov'
      exact ⟨none, (ownUp _ _ hq).2⟩
    · have e' : y2 = .cap c := e
      subst e' hov'
      obtain ⟨ml, _, hs⟩ := S.loc
      have hlt : ixOf y1 C.D < m.length := by rw [S.mlen]; exact (List.getElem?_eq_some_iff.mp hz).1
      have hr := hs (ixOf y1 C.D) z m[ixOf y1 C.D] hz (List.getElem?_eq_getElem hlt)
      have hlk : lk C m y1 = m[ixOf y1 C.D] := by
        unfold lk; rw [List.getElem?_eq_getElem hlt]; rfl
      show SlotR φ h' _ (y1, .cap c) (lk C m y1)
      rw [hlk]
      unfold SlotR at hr ⊢
      rw [hzc] at hr
      show match m[ixOf y1 C.D] with | none => _ | some p => _
      cases hm : m[ixOf y1 C.D] with
      | none => rw [hm] at hr; obtain ⟨v, hv⟩ := hr; exact ⟨v, hv.keeps hk⟩
      | some p => rw [hm] at hr; obtain ⟨v, hv, hvr⟩ := hr; exact ⟨v, hv.keeps hk, VR.ext mv.toMv noW hvr⟩
  · show (cMOf C m _).length = _
    unfold cMOf; rw [List.length_map]; rfl
end Mine

namespace Mine
open PySem PySem.Calls PyProof.Rows PySem.W PySem.SeqAt PySem.Spec

variable {C : Ctx} {n : Nat} {φ φ' : List Addr} {m : List (Option PV)} {ps : List PO} {s : Shared} {h h' : Heap}

/-! ## which tracked objects a value speaks of -/
mutual
def blw (k : Nat) : PV → Prop
  | .obj j => j < k
  | .tup l => blws k l
  | .lst l => blws k l
  | _ => True
def blws (k : Nat) : List PV → Prop
  | [] => True
  | p :: l => blw k p ∧ blws k l
end
mutual
theorem VR.blw : ∀ {p : PV} {v : Value}, VR φ h p v → Mine.blw φ.length p
  | .none, _, _ => by unfold Mine.blw; trivial
  | .bool _, _, _ => by unfold Mine.blw; trivial
  | .int _, _, _ => by unfold Mine.blw; trivial
  | .str _, _, _ => by unfold Mine.blw; trivial
  | .tup l, _, r => by obtain ⟨_, _, _, _, _, _, hr⟩ := VR.tup_inv r; unfold Mine.blw; exact VRs.blws hr
  | .lst l, _, r => by obtain ⟨_, _, _, _, _, hr⟩ := VR.lst_inv r; unfold Mine.blw; exact VRs.blws hr
  | .obj k, _, r => by obtain ⟨a, ha, _⟩ := VR.obj_inv r; unfold Mine.blw; exact (List.getElem?_eq_some_iff.mp ha).1
theorem VRs.blws : ∀ {ps : List PV} {vs : List Value}, VRs φ h ps vs → Mine.blws φ.length ps
  | [], _, _ => by unfold Mine.blws; trivial
  | _ :: _, _, r => by obtain ⟨v, us, rfl, hv, hr⟩ := VRs.cons_inv r; unfold Mine.blws; exact ⟨VR.blw hv, VRs.blws hr⟩
end
mutual
theorem VR.cut {r : List Addr} : ∀ {p : PV} {v : Value}, VR (φ ++ r) h p v → Mine.blw φ.length p → VR φ h p v
  | .none, _, q, _ => by unfold VR at q ⊢; exact q
  | .bool _, _, q, _ => by unfold VR at q ⊢; exact q
  | .int _, _, q, _ => by unfold VR at q ⊢; exact q
  | .str _, _, q, _ => by unfold VR at q ⊢; exact q
  | .tup l, _, q, b => by
    obtain ⟨a, vs, k, rfl, hf, ho, hr⟩ := VR.tup_inv q
    unfold Mine.blw at b
    exact vr_tup (fun hm => hf (List.mem_append_left _ hm)) ho (VRs.cut hr b)
  | .lst l, _, q, b => by
    obtain ⟨a, vs, rfl, hf, ho, hr⟩ := VR.lst_inv q
    unfold Mine.blw at b
    exact vr_lst (fun hm => hf (List.mem_append_left _ hm)) ho (VRs.cut hr b)
  | .obj k, _, q, b => by
    obtain ⟨a, ha, rfl⟩ := VR.obj_inv q
    unfold Mine.blw at b
    rw [List.getElem?_append_left b] at ha
    exact vr_obj ha
theorem VRs.cut {r : List Addr} : ∀ {ps : List PV} {vs : List Value}, VRs (φ ++ r) h ps vs → Mine.blws φ.length ps → VRs φ h ps vs
  | [], _, q, _ => by rw [VRs.nil_inv q]; exact VRs.nil
  | _ :: _, _, q, b => by
    obtain ⟨v, us, rfl, hv, hr⟩ := VRs.cons_inv q
    unfold Mine.blws at b
    exact VRs.cons (VR.cut hv b.1) (VRs.cut hr b.2)
end
theorem blws_map {α : Type} {k : Nat} {f : α → PV} (hf : ∀ x, Mine.blw k (f x)) : ∀ l : List α, blws k (l.map f)
  | [] => by simp [blws]
  | x :: l => by rw [List.map_cons, blws]; exact ⟨hf x, blws_map hf l⟩

theorem OR.cut {prog : Program} {w : World} {r : List Addr} {a b : Addr} {h₀ : Heap} {po : PO} (x : OR prog w φ h₀ b po) (y : OR prog w (φ ++ r) h a po) : OR prog w φ h a po := by
  cases po with
  | list l => obtain ⟨vs, ho, hr⟩ := y; obtain ⟨_, _, hr0⟩ := x; exact ⟨vs, ho, hr.cut hr0.blws⟩
  | idict es ep => obtain ⟨kvs, hd, hk, hr⟩ := y; obtain ⟨_, _, _, hr0⟩ := x; exact ⟨kvs, hd, hk, hr.cut hr0.blws⟩
  | tdict es ep => obtain ⟨xs, hd, hk, h1, h2⟩ := y; obtain ⟨_, _, _, h10, h20⟩ := x; exact ⟨xs, hd, hk, h1.cut h10.blws, h2.cut h20.blws⟩

/-- the last tracked object is let go -/
theorem St.undo {r : List Addr} {rs : List PO} {s₀ : Shared} (S₀ : St C φ m ps s₀) (S : St C (φ ++ r) m (ps ++ rs) s) : St C φ m ps s := by
  refine ⟨S.ok, S.base, fun a ha => S.new a (ha.imp (List.mem_append_left _) id), (List.nodup_append.mp S.nd).1, S₀.len, fun k a po ha hp => ?_, fun a ha hm => S.off a ha (List.mem_append_left _ hm), ?_, S.mlen, S.gens, S.os, fun hm => S.mod (List.mem_append_left _ hm), S.lim⟩
  · have hk := (List.getElem?_eq_some_iff.mp ha).1
    exact OR.cut (S₀.objs k a po ha hp) (S.objs k a po (by rw [List.getElem?_append_left hk]; exact ha) (by rw [List.getElem?_append_left (by rw [S₀.len]; exact hk)]; exact hp))
  · obtain ⟨ml, hn, hs⟩ := S.loc
    obtain ⟨ml0, _, hs0⟩ := S₀.loc
    refine ⟨ml, hn, fun i y ov hi hm => ?_⟩
    have a1 := hs i y ov hi hm
    have a0 := hs0 i y ov hi hm
    unfold SlotR at a1 a0 ⊢
    cases hc : y.2.cell? with
    | none =>
      rw [hc] at a1 a0
      cases ov with
      | none => trivial
      | some p => obtain ⟨v, hv, hr⟩ := a1; obtain ⟨_, _, hr0⟩ := a0; exact ⟨v, hv, hr.cut hr0.blw⟩
    | some c =>
      rw [hc] at a1 a0
      cases ov with
      | none => exact a1
      | some p => obtain ⟨v, hv, hr⟩ := a1; obtain ⟨_, _, hr0⟩ := a0; exact ⟨v, hv, hr.cut hr0.blw⟩

/-! ## the loop of a comprehension -/
def condSem (ifs : List Expr) (env : Env) : Sem Bool :=
  forIn ifs true fun c r => if r = true then do let ok ← isTrue c env (eval c env); pure (ForInStep.yield ok) else pure (ForInStep.yield r)
def AIfs (C : Ctx) (n : Nat) (ifs : List Expr) (m : List (Option PV)) (ps : List PO) (Q : Bool → List PO → Prop) : Prop :=
  ∀ A φ s, Room n A → St C φ m ps s → wpAny (model C.prog C.w) A (condSem ifs C.env) (PostB C φ m s.heap Q) NoE s
theorem AIfs_nil {Q : Bool → List PO → Prop} (q : Q true ps) : AIfs C n [] m ps Q := fun A φ s R S => by
  unfold condSem; rw [List.forIn_nil]; exact wpAny_pure (PostB.here S q)
theorem AIfs_one {c : Expr} {Q : Bool → List PO → Prop} (q : AB C n c m ps Q) : AIfs C n [c] m ps Q := fun A φ s R S => by
  unfold condSem; rw [List.forIn_cons, if_pos rfl]
  refine wpAny_bind (wpAny_bind (wpAny_mono (q A φ s R S) (fun b s₁ r => wpAny_pure ?_) noE))
  dsimp only
  rw [List.forIn_nil]; exact wpAny_pure r
def ACm (C : Ctx) (n : Nat) (k : Nat) (D : Addr) (t : Sem Unit) (m : List (Option PV)) (ps : List PO) (Q : List (Option PV) → List PO → Prop) : Prop :=
  ∀ A φ s, Room n A → St C φ m ps s → φ[k]? = some D → wpAny (model C.prog C.w) A t (fun _ => PostU C φ s.heap Q) NoE s

theorem comp_loop {elt target iter : Expr} {gens : List Comprehension} {sc : Scope} {pos : Pos} {ifs : List Expr} {X : Sem Unit} {acc : Value} {depth : Nat} {A : Around} {I : Addr} {nxt : Nat → List PO → Option PV} {ok : List PO → Prop} {IT : List Addr → Nat → Heap → Prop}
    {IM : List Addr → Nat → Value → Heap → Prop} {K : List PO → Prop} {hs : Heap} {φs : List Addr} {Wx : Addr → Prop} {kD : Nat} {D : Addr} (R : Room n A) (hWx : ∀ b o, hs.get? b = some o → C.W b → Wx b) (W : Iter C.toBase n target I nxt ok IT IM) (ap : Apart C I)
    (hturn : compTurn (.ListComp elt gens sc pos) depth (.ref I) acc C.env = (standAt iter.pos >>= fun _ => pyNext (.ref I) >>= fun r => match r with
      | none => pure (.done .next)
      | some v => letOwnedTupleGo target (.ref I) v >>= fun _ => assign target C.env v >>= fun _ => condSem ifs C.env >>= fun b => (if b = true then X else pure ()) >>= fun _ => again (.compLoop (.ListComp elt gens sc pos) depth (.ref I) acc C.env)))
    (J : Nat → List PO → Prop) (N : Nat) (rst : ∀ φ' m' ps' s', St C φ' m' ps' s' → Ext Wx φs φ' hs s'.heap → St C φ' m ps' s')
    (step : ∀ i ps, J i ps → ok ps ∧ (∀ p, nxt i ps = some p → i < N ∧ AT C n target p m ps fun m₁ ps₁ => AIfs C n ifs m₁ ps₁ fun b ps₂ => (b = true → ACm C n kD D X m₁ ps₂ fun _ => J (i + 1)) ∧ (b = false → J (i + 1) ps₂)) ∧ (nxt i ps = none → K ps))
    (h0 : J 0 ps) (S : St C φ m ps s) (hkD : φ[kD]? = some D) (hI : I ∉ φ) (hIT : IT φ 0 s.heap) (x₀ : Ext Wx φs φ hs s.heap) (hsI : hs.get? I = none) :
    codeAny (model C.prog C.w) A (.compLoop (.ListComp elt gens sc pos) depth (.ref I) acc C.env) (fun r s' => r = .ok .next ∧ ∃ φ' ps', K ps' ∧ St C φ' m ps' s' ∧ Ext Wx φs φ' hs s'.heap ∧ φ'[kD]? = some D) s := by
  refine codeAny_loop rfl (fun k s' => ∃ φ' ps' i, i ≤ N ∧ k = N - i ∧ J i ps' ∧ IT φ' i s'.heap ∧ St C φ' m ps' s' ∧ Ext Wx φs φ' hs s'.heap ∧ I ∉ φ' ∧ φ'[kD]? = some D) ?_ N ⟨φ, ps, 0, Nat.zero_le _, rfl, h0, hIT, S, x₀, hI, hkD⟩
  rintro k s' ⟨φ', ps', i, hiN, rfl, hJ', hIT', S', x', hIφ', hk'⟩
  show wpAny _ A ((compTurn (.ListComp elt gens sc pos) depth (.ref I) acc C.env).onRaise (fun x => do noteFrame x C.env; theTreesLotGoes x)) _ _ s'
  refine wpAny_noted ?_
  rw [hturn]
  refine wpAny_bind (wpAny_standAt (wpAny_bind ?_))
  obtain ⟨hok, hsome, hnone⟩ := step i ps' hJ'
  obtain ⟨oI, hoI, hns⟩ := W.there _ i _ hIT'
  have ns : ∀ o vs n, s'.heap.get? I = some o → o.data ≠ .seq vs n := fun o vs n e => by rw [hoI] at e; cases e; exact hns vs n
  cases hn : nxt i ps' with
  | none =>
    refine W.stop _ φ' ps' s' i _ _ (by exact R) S'.g hIφ' hIT' hok hn fun h' t hx => ?_
    exact wpAny_pure ⟨rfl, φ', ps', hnone hn, S'.iter t hx ap hIφ' ns, x'.iter hx hsI, hk'⟩
  | some p =>
    obtain ⟨hi, hbody⟩ := hsome p hn
    refine W.item _ φ' ps' s' i p _ _ (by exact R) S'.g hIφ' hIT' hok hn fun v h' t hM hv hx => ?_
    have S₃ := S'.iter t hx ap hIφ' ns
    have x₃ := x'.iter hx hsI
    obtain ⟨o₃, ho₃, hns₃⟩ := W.thereM _ i v _ hM
    have ns₃ : ∀ o vs n, h'.get? I = some o → o.data ≠ .seq vs n := fun o vs n e => by rw [ho₃] at e; cases e; exact hns₃ vs n
    dsimp only
    refine wpAny_bind (W.go _ { s' with heap := h', toks := t } φ' i v _ _ hM fun h'' hIT'' hx' => ?_)
    have S₄ := S₃.iter t hx' ap hIφ' ns₃
    have x₄ := x₃.iter hx' hsI
    have hv' : VR φ' h'' p v := VR.ext (Mv.iter hx') (fun b hb o vs n e => ns₃ o vs n (by rw [← hb]; exact e)) hv
    refine wpAny_bind (wpAny_mono (hbody _ φ' _ v (by exact R) S₄ hv') (fun _ s₅ ⟨φ₅, m₅, ps₅, q₅, S₅, x₅⟩ => ?_) noE)
    refine wpAny_bind (wpAny_mono (q₅ _ φ₅ s₅ (by exact R) S₅) (fun b s₆ ⟨φ₆, ps₆, ⟨qt, qf⟩, S₆, x₆⟩ => ?_) noE)
    have fin : ∀ {φ₇ : List Addr} {m₇ : List (Option PV)} {ps₇ : List PO} {s₇ : Shared}, J (i + 1) ps₇ → St C φ₇ m₇ ps₇ s₇ → Ext C.W φ₆ φ₇ s₆.heap s₇.heap →
        ∃ j, j < N - i ∧ ∃ φ' ps' i, i ≤ N ∧ j = N - i ∧ J i ps' ∧ IT φ' i s₇.heap ∧ St C φ' m ps' s₇ ∧ Ext Wx φs φ' hs s₇.heap ∧ I ∉ φ' ∧ φ'[kD]? = some D := by
      intro φ₇ m₇ ps₇ s₇ hJ S₇ x₇
      obtain ⟨oI', hoI', _⟩ := W.there _ (i + 1) _ hIT''
      have hW : ¬ C.W I := fun hw => by
        rcases Ctx.W.cell C hw with e | e
        · exact ap.loc e
        · exact ap.cell e
      have x57 := (x₅.trans x₆).trans x₇
      exact ⟨N - (i + 1), by omega, φ₇, ps₇, i + 1, hi, rfl, hJ, W.move _ _ _ _ _ _ hIT'' x57.toMv S₄.noSeq fun o e => x57.keep I o e hIφ' hW, rst _ _ _ _ S₇ (x₄.trans2 x57 hWx), x₄.trans2 x57 hWx, x57.notMem hoI' hIφ', x57.mem hk'⟩
    cases b with
    | false =>
      refine wpAny_bind (wpAny_pure (wpAny_pure ⟨rfl, ?_⟩))
      exact fin (qf rfl) S₆ Ext.refl
    | true =>
      simp only [if_true]
      refine wpAny_bind (wpAny_mono (qt rfl _ φ₆ s₆ (by exact R) S₆ ((x₅.trans x₆).mem hk')) (fun _ s₇ ⟨φ₇, m₇, ps₇, q₇, S₇, x₇⟩ => wpAny_pure ⟨rfl, ?_⟩) noE)
      exact fin q₇ S₇ x₇

theorem list_append {l : Addr} {items : Array Value} {x : Value} {A : Around} {E : Value → Shared → Prop} {Q : Value → Shared → Prop} (hl : s.heap.PlainList l items) (hsz : items.size ≤ 1000000)
    (hQ : ∀ h', h'.PlainList l (items.push x) → Heap.SameBut l s.heap h' → Q .none { s with heap := h' }) : wpAny (model C.prog C.w) A (call (.builtin "list.append") [.ref l, x]) Q E s :=
  wpAny_list_append_plain hl hQ (by rw [sizeLine_eq]; omega)

/-- the turn's end: an item is appended to the tracked list -/
theorem ACm_append {k : Nat} {D : Addr} {elt : Expr} {Q : List (Option PV) → List PO → Prop}
    (h : AE C n elt m ps fun q ps₁ => ∃ l, ps₁[k]? = some (.list l) ∧ l.length ≤ 1000000 ∧ Q m (ps₁.set k (.list (l ++ [q])))) :
    ACm C n k D (do let _ ← call (.builtin "list.append") [.ref D, ← eval elt C.env]) m ps Q := by
  intro A φ s R S hk
  refine wpAny_bind (wpAny_mono (h A φ s R S) (fun v s₁ ⟨φ₁, q, ps₁, ⟨l, hp, hl, hq⟩, S₁, hv, x₁⟩ => ?_) noE)
  have hk₁ := x₁.mem hk
  obtain ⟨vs, hL, hr⟩ := S₁.objs k D _ hk₁ hp
  have hsz : vs.size = l.length := by rw [← Array.length_toList]; exact hr.length
  refine wpAny_bind (list_append hL (by rw [hsz]; exact hl) fun h' hL' hs => wpAny_pure ?_)
  obtain ⟨S₂, x₂⟩ := S₁.turn (po := .list (l ++ [q])) s₁.toks hk₁ hs (let ⟨_, e⟩ := hL'; ⟨_, e⟩) fun x => ⟨_, hL', by
    rw [Array.toList_push]; exact (VRs.ext x.toMv S₁.noSeq hr).append (VRs.cons (VR.ext x.toMv S₁.noSeq hv) VRs.nil)⟩
  exact ⟨φ₁, m, _, hq, S₂, x₁.trans x₂⟩
end Mine

namespace Mine
open PySem PySem.Calls PyProof.Rows PySem.W PySem.SeqAt PySem.Spec

variable {C : Ctx} {n : Nat} {φ φ' : List Addr} {m : List (Option PV)} {ps : List PO} {s : Shared} {h h' : Heap}

theorem compTurn1 (elt target iter : Expr) (ifs : List Expr) (scope : Scope) (pos : Pos) (it acc : Value) (env : Env) :
    compTurn (.ListComp elt [⟨target, iter, ifs, 0⟩] scope pos) 0 it acc env = (standAt iter.pos >>= fun _ => pyNext it >>= fun r => match r with
      | none => pure (.done .next)
      | some v => letOwnedTupleGo target it v >>= fun _ => assign target env v >>= fun _ => condSem ifs env >>= fun b =>
        (if b = true then (do let _ ← call (.builtin "list.append") [acc, ← eval elt env]) else pure ()) >>= fun _ => again (.compLoop (.ListComp elt [⟨target, iter, ifs, 0⟩] scope pos) 0 it acc env)) := by
  rw [compTurn_list]
  refine congrArg (Sem.bind (standAt iter.pos)) (funext fun _ => congrArg (Sem.bind (pyNext it)) (funext fun r => ?_))
  cases r with
  | none => rfl
  | some v =>
    refine congrArg (Sem.bind (letOwnedTupleGo target it v)) (funext fun _ => congrArg (Sem.bind (assign target env v)) (funext fun _ => congrArg (Sem.bind (condSem ifs env)) (funext fun b => ?_)))
    cases b <;> rfl

theorem compOkB_spec {C : Ctx} {sc : Scope} (hc : compOkB C sc = true) : sc.kind = .function ∧ (sc.names.map (·.1)).Nodup ∧ ∀ x ∈ sc.names, x.2 = .free → ∃ y, slotAt C x.1 = some y ∧ y.2.cell?.isSome = true := by
  simp only [compOkB, Bool.and_eq_true, decide_eq_true_eq, List.all_eq_true, Bool.or_eq_true, bne_iff_ne] at hc
  obtain ⟨⟨a, b⟩, c⟩ := hc
  refine ⟨a, b, fun x hx e => ?_⟩
  rcases c x hx with h | h
  · exact absurd e h
  · cases hs : slotAt C x.1 with
    | none => rw [hs] at h; cases h
    | some y => rw [hs] at h; exact ⟨y, rfl, h⟩
theorem Ctx.Ok.cellLookup (ok : C.Ok) {x : Str} {y : Str × Slot} (hs : slotAt C x = some y) (hc : y.2.cell?.isSome = true) : (C.env.cells.lookup x).isSome = true := by
  have hst := ok.stat y (List.mem_of_getElem? hs)
  have h1 := ixOf_spec hs
  obtain ⟨y1, y2⟩ := y
  have h1' : y1 = x := h1
  subst h1'
  cases y2 with
  | loc => cases hc
  | own c => rw [hst.2.1]; rfl
  | cap c => rw [hst.2.1]; rfl

theorem St.reset {φ₁ : List Addr} {ps₁ : List PO} {s₁ : Shared} {sc : Scope} {L : Addr} {m' : List (Option PV)} (hc : compOkB C sc = true) (S₁ : St C φ₁ m ps₁ s₁) (S : St (cCtx C sc L) φ m' ps s) (x : Ext (fun _ => False) φ₁ φ s₁.heap s.heap) :
    St (cCtx C sc L) φ (cM C sc L m) ps s := by
  have hlen : (cM C sc L m).length = (cCtx C sc L).D.length := by unfold cM cMOf; rw [List.length_map]; rfl
  refine ⟨S.ok, S.base, S.new, S.nd, S.len, S.objs, S.off, ?_, hlen, S.gens, S.os, S.mod, S.lim⟩
  obtain ⟨ml, hn, hs⟩ := S.loc
  refine ⟨ml, hn, fun i y ov hy hov => ?_⟩
  have hlt : i < m'.length := by rw [S.mlen]; exact (List.getElem?_eq_some_iff.mp hy).1
  have hr := hs i y m'[i] hy (List.getElem?_eq_getElem hlt)
  have hov' : ov = (match y.2 with | .cap _ => lk C m y.1 | _ => none) := by
    unfold cM cMOf at hov
    rw [List.getElem?_map, show (sc.names.filterMap (cLayAt C sc L))[i]? = some y from hy] at hov
    exact (Option.some.inj hov).symm
  obtain ⟨z, hz, ez⟩ := List.mem_filterMap.mp (List.mem_of_getElem? hy)
  obtain ⟨y1, y2⟩ := y
  cases y2 with
  | loc => subst hov'; trivial
  | own c => subst hov'; exact SlotR.cellThere hr rfl
  | cap c =>
    subst hov'
    unfold cLayAt at ez
    obtain ⟨x1, k⟩ := z
    cases k <;> simp only at ez
    · cases ez
    · cases hq : (cellsFrom (L + 1) sc.names []).lookup x1 with
      | none => rw [hq] at ez; cases ez
      | some c => rw [hq] at ez; cases ez
    · cases hq : slotAt C x1 with
      | none => rw [hq] at ez; cases ez
      | some z =>
        rw [hq] at ez
        simp only at ez
        cases hzc : z.2.cell? with
        | none => rw [hzc] at ez; cases ez
        | some c' =>
          rw [hzc] at ez; cases ez
          obtain ⟨ml₁, _, hs₁⟩ := S₁.loc
          have hlt₁ : ixOf y1 C.D < m.length := by rw [S₁.mlen]; exact (List.getElem?_eq_some_iff.mp hq).1
          have hr₁ := hs₁ (ixOf y1 C.D) z m[ixOf y1 C.D] hq (List.getElem?_eq_getElem hlt₁)
          have hlk : lk C m y1 = m[ixOf y1 C.D] := by unfold lk; rw [List.getElem?_eq_getElem hlt₁]; rfl
          have hoff : c ∉ φ₁ := S₁.off c (.inr ⟨z, List.mem_of_getElem? hq, hzc⟩)
          have kp : ∀ v, s₁.heap.IsCell c v → s.heap.IsCell c v := fun v ⟨o, ho, hd⟩ => ⟨o, x.keep c o ho hoff id, hd⟩
          show SlotR φ s.heap ml (y1, .cap c) (lk C m y1)
          rw [hlk]
          unfold SlotR at hr₁ ⊢
          rw [hzc] at hr₁
          show match m[ixOf y1 C.D] with | none => _ | some p => _
          cases hm : m[ixOf y1 C.D] with
          | none => rw [hm] at hr₁; obtain ⟨v, hv⟩ := hr₁; exact ⟨v, kp v hv⟩
          | some p => rw [hm] at hr₁; obtain ⟨v, hv, hvr⟩ := hr₁; exact ⟨v, kp _ hv, VR.ext x.toMv (fun b hb => hb.elim) hvr⟩
    all_goals cases ez

/-- what is known when the loop of a comprehension has run -/
inductive PostX (C : Ctx) (φ : List Addr) (m : List (Option PV)) (h : Heap) (L : Addr) (Q : PV → List PO → Prop) (v : Value) (s' : Shared) : Prop
  | mk (φ' : List Addr) (p : PV) (ps' : List PO) (q : Q p ps') (S : St C φ' m ps' s') (r : VR φ' s'.heap p v) (x : Ext C.W φ φ' h s'.heap) (l : L ∉ φ') : PostX C φ m h L Q v s'
def CGn (C : Ctx) (n : Nat) (elt : Expr) (g : Comprehension) (rest : List Comprehension) (sc : Scope) (pos : Pos) (m : List (Option PV)) (ps : List PO) (Q : PV → List PO → Prop) : Prop :=
  ∀ A φ s ppos use (QQ : Value → Shared → Prop), Room n A → St C φ m ps s →
    (∀ v s' L ml, PostX C φ m s.heap L Q v s' → Apart C L → s'.heap.Ns L ml → s.heap.get? L = none → compPost (model C.prog C.w) A NoE use QQ v L (.ok .next) s') →
    wpAny (model C.prog C.w) A (comprehension (.ListComp elt (g :: rest) sc pos) sc C.env ppos (newList []) false (eval g.iter C.env) use) QQ NoE s

abbrev CG (C : Ctx) (n : Nat) (elt target iter : Expr) (ifs : List Expr) (sc : Scope) (pos : Pos) (m : List (Option PV)) (ps : List PO) (Q : PV → List PO → Prop) : Prop := CGn C n elt ⟨target, iter, ifs, 0⟩ [] sc pos m ps Q

theorem AIt.mono {target iter : Expr} {K K' : (Nat → List PO → Option PV) → (List PO → Prop) → List PO → Prop} (h : AIt C n target iter m ps K) (hK : ∀ nxt ok ps, K nxt ok ps → K' nxt ok ps) : AIt C n target iter m ps K' :=
  fun A φ s R S => wpAny_mono (h A φ s R S) (fun x s₁ ⟨φ', ps', S₁, e, w⟩ => ⟨φ', ps', S₁, e, wpAny_mono w (fun it s₂ ⟨I, nxt, ok, IT, IM, e, W, hIT, k, r1, r2, r3, r4, r5⟩ => ⟨I, nxt, ok, IT, IM, e, W, hIT, hK _ _ _ k, r1, r2, r3, r4, r5⟩) noE⟩) noE
theorem CGn_O {elt target iter : Expr} {ifs : List Expr} {rest : List Comprehension} {sc : Scope} {pos : Pos} {Q : PV → List PO → Prop} (X : Value → Env → Sem Unit) (hc : compOkB C sc = true)
    (hturn : ∀ it acc env, compTurn (.ListComp elt (⟨target, iter, ifs, 0⟩ :: rest) sc pos) 0 it acc env = (standAt iter.pos >>= fun _ => pyNext it >>= fun r => match r with
      | none => pure (.done .next)
      | some v => letOwnedTupleGo target it v >>= fun _ => assign target env v >>= fun _ => condSem ifs env >>= fun b =>
        (if b = true then X acc env else pure ()) >>= fun _ => again (.compLoop (.ListComp elt (⟨target, iter, ifs, 0⟩ :: rest) sc pos) 0 it acc env)))
    (h : AIt C n target iter m ps fun nxt ok ps₁ => ∀ L, ∃ (J : Nat → List PO → Prop) (N : Nat), J 0 (ps₁ ++ [.list []]) ∧ ∀ i ps', J i ps' → ok ps' ∧
      (∀ p, nxt i ps' = some p → i < N ∧ AT (cCtx C sc L) n target p (cM C sc L m) ps' fun m₁ ps₂ => AIfs (cCtx C sc L) n ifs m₁ ps₂ fun b ps₃ =>
        (b = true → ∀ D, ACm (cCtx C sc L) n ps₁.length D (X (.ref D) (cCtx C sc L).env) m₁ ps₃ fun _ => J (i + 1)) ∧ (b = false → J (i + 1) ps₃)) ∧
      (nxt i ps' = none → Q (.obj ps₁.length) ps'))
    (hs : ∀ x, foldedSetIterable iter C.env x = pure x := by intro _; rfl) :
    CGn C n elt ⟨target, iter, ifs, 0⟩ rest sc pos m ps Q := by
  intro A φ s ppos use QQ R S fin
  obtain ⟨hkind, hnd, hfree⟩ := compOkB_spec hc
  refine wpAny_comprehension_free (g := ⟨target, iter, ifs, 0⟩) (gs := rest) (cl := clF C.env sc.names []) rfl hs
    (closureFor_clF fun x hx e => let ⟨y, h1, h2⟩ := hfree x hx e; S.ok.cellLookup h1 h2) hkind (fun x hx e => lookup_of_nodup hnd (by rw [← e]; exact hx)) ?_
  show wpAny _ _ (eval iter C.env) _ _ s
  refine wpAny_mono (h A φ s R S) (fun x s₁ ⟨φ₂, ps₂, S₁, x₁, h₁⟩ => wpAny_mono h₁ (fun it s₂ h₂ => ?_) noE) noE
  obtain ⟨I, nxt, ok, IT, IM, rfl, W, hIT, hJ, S₂, x₁₂, hI₁, ap, hIφ⟩ := h₂
  refine wpAny_newObj_type ?_ (by show (#[] : Array Value).size ≤ _; exact Nat.zero_le _)
  obtain ⟨S₃, x₃⟩ := S₂.alloc (o := lstO #[] 0) (po := .list []) s₂.toks ⟨#[], isList_new _ _, VRs.nil⟩
  refine wpAny_compEnv (s := { s₂ with heap := s₂.heap.push (lstO #[] 0) }) (fun h' hk hns hco env' hl he => ?_)
  rw [he]
  obtain ⟨S₄, WUp⟩ := S₃.comp hc hk hns hco
  have x₂₄ : Ext (fun _ => False) φ₂ (φ₂ ++ [s₂.heap.objs.size]) s₂.heap h' := (Ext.alloc (lstO #[] 0)).trans (Ext.ofKeep hk)
  have x₁₄ := x₁₂.trans x₂₄
  obtain ⟨oI, hoI, hnsI⟩ := W.there _ _ _ hIT
  have hoI₃ : (s₂.heap.push (lstO #[] 0)).get? I = some oI := Heap.get?_push_of_some _ hoI
  have ILt : I < (s₂.heap.push (lstO #[] 0)).objs.size := Heap.lt_size hoI₃
  have hL : (s₂.heap.push (lstO #[] 0)).objs.size = s₂.heap.objs.size + 1 := Heap.size_push ..
  generalize hLL : (s₂.heap.push (lstO #[] 0)).objs.size = L at *
  obtain ⟨J, N, hJ0, step⟩ := hJ L
  have ap' : Apart (cCtx C sc L) I := by
    refine ⟨Nat.ne_of_lt ILt, fun hcell => ?_, ap.h0⟩
    obtain ⟨y, hy, e⟩ := hcell
    obtain ⟨x, hx, el⟩ := List.mem_filterMap.mp hy
    cases hsl : y.2 with
    | loc => rw [hsl] at e; cases e
    | own c =>
      rw [hsl] at e; cases e
      have := WUp I (.inr ⟨y.1, by rw [← hsl]; exact hy⟩)
      exact absurd ILt (Nat.not_lt.mpr this)
    | cap c =>
      rw [hsl] at e; cases e
      unfold cLayAt at el
      obtain ⟨x1, k⟩ := x
      cases k <;> simp only at el
      · cases el; cases hsl
      · cases hq : (cellsFrom (L + 1) sc.names []).lookup x1 with
        | none => rw [hq] at el; cases el
        | some c => rw [hq] at el; cases el; cases hsl
      · cases hq : slotAt C x1 with
        | none => rw [hq] at el; cases el
        | some z =>
          rw [hq] at el
          simp only at el
          cases hzc : z.2.cell? with
          | none => rw [hzc] at el; cases el
          | some c => rw [hzc] at el; cases el; cases hsl; exact ap.cell ⟨z, List.mem_of_getElem? hq, hzc⟩
      all_goals cases el
  have hIφ' : I ∉ φ₂ ++ [s₂.heap.objs.size] := fun hm => by
    rcases List.mem_append.mp hm with hm | hm
    · exact hIφ hm
    · simp at hm; subst hm; exact absurd (Heap.lt_size hoI) (Nat.lt_irrefl _)
  have hIT' : IT (φ₂ ++ [s₂.heap.objs.size]) 0 h' := W.move _ _ _ _ _ _ hIT x₂₄.toMv (fun b hb => hb.elim) fun o e => hk _ _ (Heap.get?_push_of_some _ e)
  have hkD : (φ₂ ++ [s₂.heap.objs.size])[ps₂.length]? = some s₂.heap.objs.size := by rw [S₂.len]; simp
  have loop : ∀ s₄ : Shared, s₄ = { s₂ with heap := h' } → codeAny (model C.prog C.w) A (.compLoop (.ListComp elt (⟨target, iter, ifs, 0⟩ :: rest) sc pos) 0 (.ref I) (.ref s₂.heap.objs.size) (cEnv sc L C.env))
      (compPost (model C.prog C.w) A NoE use QQ (.ref s₂.heap.objs.size) L) s₄ := by
    rintro s₄ rfl
    have hW0 : ∀ b o, s₁.heap.get? b = some o → (cCtx C sc L).W b → False := fun b o e hw => by
      obtain ⟨o', e'⟩ := x₁₂.dom b o e
      have h1 := Heap.lt_size e'
      have h2 := WUp b hw
      have h3 : (s₂.heap.push (lstO #[] 0)).objs.size = s₂.heap.objs.size + 1 := Heap.size_push ..
      rw [hLL] at h3
      exact absurd (Nat.lt_of_lt_of_le h1 (by omega : s₂.heap.objs.size ≤ b)) (Nat.lt_irrefl _)
    refine codeAny_mono (comp_loop (C := cCtx C sc L) (n := n) (m := cM C sc L m) (Wx := fun _ => False) (hs := s₁.heap) (φs := φ₂)
      (K := fun ps' => Q (.obj ps₂.length) ps') R hW0 W ap' (hturn (.ref I) (.ref s₂.heap.objs.size) (cEnv sc L C.env))
      J N (fun φ' m' ps' s' S' x' => S₁.reset hc S' x') (fun i ps' hJ' => ?_) hJ0 S₄ hkD hIφ' hIT' x₁₄ hI₁) ?_
    · obtain ⟨h1, h2, h3⟩ := step i ps' hJ'
      refine ⟨h1, fun p hp => ?_, h3⟩
      obtain ⟨hN, hAT⟩ := h2 p hp
      refine ⟨hN, fun A φ s v R S hv => wpAny_mono (hAT A φ s v R S hv) (fun _ s' ⟨φ', m', ps', q, S', x'⟩ => ⟨φ', m', ps', fun A φ s R S => ?_, S', x'⟩) noE⟩
      refine wpAny_mono (q A φ s R S) (fun b s' ⟨φ', ps', ⟨qt, qf⟩, S', x'⟩ => ⟨φ', ps', ⟨fun hb => qt hb _, qf⟩, S', x'⟩) noE
    · rintro r s' ⟨rfl, φ', ps', hQ, S', x', hkD'⟩
      obtain ⟨ml', hn', _⟩ := S'.loc
      obtain ⟨S'', x''⟩ := S₁.back S'.g x'
      have hLs : s₁.heap.get? L = none := by
        cases hq : s₁.heap.get? L with
        | none => rfl
        | some o => exact (hW0 L o hq (.inl rfl)).elim
      have apL : Apart C L := by
        refine ⟨fun e => ?_, fun hcell => ?_, ?_⟩
        · obtain ⟨ml, ⟨o, _, _, ho, _⟩, _⟩ := S₁.loc
          rw [← e, hLs] at ho; cases ho
        · obtain ⟨v, o, ho, _⟩ := S₁.cell hcell
          rw [hLs] at ho; cases ho
        · cases hq : C.h0.get? L with
          | none => rfl
          | some o => have := S₁.base L o hq; rw [hLs] at this; cases this
      have hsL : s.heap.get? L = none := by
        cases hq : s.heap.get? L with
        | none => rfl
        | some o => obtain ⟨o', e'⟩ := x₁.dom _ o hq; rw [hLs] at e'; cases e'
      exact fin _ _ L _ ⟨φ', .obj ps₂.length, ps', hQ, S'', vr_obj hkD', x₁.trans x'', S'.off _ (.inl rfl)⟩ apL hn' hsL
  have hde : ∀ C' Q', codeAny C' A (.compStart (.ListComp elt (⟨target, iter, ifs, 0⟩ :: rest) sc pos) 0 (.ref I) (.ref s₂.heap.objs.size) (cEnv sc L C.env)) Q' { s₂ with heap := h' } → True := fun _ _ _ => trivial
  have hlen : env'.locals = L := hl
  rw [hlen]
  exact codeAny_compStart_list (loop _ rfl) (W.self _ _ _ _ _ _ hIT' (loop _ rfl))

theorem CG_O {elt target iter : Expr} {ifs : List Expr} {sc : Scope} {pos : Pos} {Q : PV → List PO → Prop} (hc : compOkB C sc = true)
    (h : AIt C n target iter m ps fun nxt ok ps₁ => ∀ L, ∃ (J : Nat → List PO → Prop) (N : Nat), J 0 (ps₁ ++ [.list []]) ∧ ∀ i ps', J i ps' → ok ps' ∧
      (∀ p, nxt i ps' = some p → i < N ∧ AT (cCtx C sc L) n target p (cM C sc L m) ps' fun m₁ ps₂ => AIfs (cCtx C sc L) n ifs m₁ ps₂ fun b ps₃ =>
        (b = true → AE (cCtx C sc L) n elt m₁ ps₃ fun q ps₄ => ∃ l, ps₄[ps₁.length]? = some (.list l) ∧ l.length ≤ 1000000 ∧ J (i + 1) (ps₄.set ps₁.length (.list (l ++ [q])))) ∧ (b = false → J (i + 1) ps₃)) ∧
      (nxt i ps' = none → Q (.obj ps₁.length) ps'))
    (hs : ∀ x, foldedSetIterable iter C.env x = pure x := by intro _; rfl) :
    CG C n elt target iter ifs sc pos m ps Q :=
  CGn_O (fun acc env => do let _ ← call (.builtin "list.append") [acc, ← eval elt env]) hc (fun it acc env => compTurn1 elt target iter ifs sc pos it acc env) (AIt.mono h fun nxt ok ps₁ hJ L => by
    obtain ⟨J, N, h0, step⟩ := hJ L
    refine ⟨J, N, h0, fun i ps' hJ' => ?_⟩
    obtain ⟨h1, h2, h3⟩ := step i ps' hJ'
    refine ⟨h1, fun p hp => ?_, h3⟩
    obtain ⟨hN, hAT⟩ := h2 p hp
    refine ⟨hN, fun A φ s v R S hv => wpAny_mono (hAT A φ s v R S hv) (fun _ s' ⟨φ', m', ps', q, S', x'⟩ => ⟨φ', m', ps', fun A φ s R S => ?_, S', x'⟩) noE⟩
    exact wpAny_mono (q A φ s R S) (fun b s' ⟨φ', ps', ⟨qt, qf⟩, S', x'⟩ => ⟨φ', ps', ⟨fun hb _ => ACm_append (qt hb), qf⟩, S', x'⟩) noE) hs

/-- the list of a comprehension as data -/
theorem CG_drop {elt : Expr} {g : Comprehension} {rest : List Comprehension} {sc : Scope} {pos : Pos} {Q : PV → List PO → Prop}
    (key : CGn C n elt g rest sc pos m ps fun p ps' => ∃ acc, p = .obj ps.length ∧ ps' = ps ++ [.list acc] ∧ Q (.lst acc) ps ∧ blws ps.length acc) : CGn C n elt g rest sc pos m ps Q := by
  intro A φ s ppos use QQ R S fin
  refine key A φ s ppos use QQ R S fun v s' L ml ⟨φ', p, ps', ⟨acc, hp, hps, hQ, hb⟩, S', hv, x', hLφ⟩ apL hnL hsL => ?_
  subst hp hps
  obtain ⟨⟨⟨r, rfl, hr⟩, hkeep⟩, hdom⟩ := x'
  have hl := S'.len
  have hl0 := S.len
  rw [List.length_append, List.length_append, hl0] at hl
  obtain ⟨D, rfl⟩ : ∃ D, r = [D] := by
    match r, hl with
    | [D], _ => exact ⟨D, rfl⟩
    | [], hl => simp at hl
    | _ :: _ :: _, hl => simp at hl
  obtain ⟨D', hD, rfl⟩ := VR.obj_inv hv
  have : D' = D := by rw [hl0] at hD; simpa using hD.symm
  subst this
  obtain ⟨vs, hL, hvs⟩ := S'.objs ps.length D' (.list acc) hD (by simp)
  have hDφ : D' ∉ φ := fun hm => by
    have := (List.nodup_append.mp S'.nd).2.2 D' hm D' (by simp)
    exact this rfl
  exact fin _ _ L ml ⟨φ, .lst acc, ps, hQ, S.undo S', vr_lst hDφ hL (hvs.cut (by rw [← hl0]; exact hb)), ⟨⟨⟨[], by simp, by simp⟩, hkeep⟩, hdom⟩, fun hm => hLφ (List.mem_append_left _ hm)⟩ apL hnL hsL
/-- a filter comprehension whose list is tracked -/
theorem CG_FO {α β : Type} (l : List α) (g : α → PV) (F : α → Option β) (o : β → PV) {elt target iter : Expr} {ifs : List Expr} {sc : Scope} {pos : Pos} {Q : PV → List PO → Prop} (hc : compOkB C sc = true)
    (hl : l.length ≤ 1000)
    (h : AIt C n target iter m ps fun nxt ok ps₁ => ps₁ = ps ∧ (∀ acc, ok (ps ++ [.list acc])) ∧ (∀ i acc, nxt i (ps ++ [.list acc]) = (l[i]?).map g) ∧
      (∀ L x acc, x ∈ l → AT (cCtx C sc L) n target (g x) (cM C sc L m) (ps ++ [.list acc]) fun m₁ ps₂ => AIfs (cCtx C sc L) n ifs m₁ ps₂ fun b ps₃ => ps₃ = ps ++ [.list acc] ∧ b = (F x).isSome ∧
        ∀ y, F x = some y → AE (cCtx C sc L) n elt m₁ (ps ++ [.list acc]) fun q ps₄ => ps₄ = ps ++ [.list acc] ∧ q = o y) ∧
      Q (.obj ps.length) (ps ++ [.list ((l.filterMap F).map o)]))
    (hs : ∀ x, foldedSetIterable iter C.env x = pure x := by intro _; rfl) :
    CG C n elt target iter ifs sc pos m ps Q := by
  refine CG_O hc (fun A φ s R S => ?_) hs
  refine wpAny_mono (h A φ s R S) (fun x s₁ ⟨φ', ps', S₁, x₁, h₁⟩ => ⟨φ', ps', S₁, x₁, wpAny_mono h₁ (fun it s₂ ⟨I, nxt, ok, IT, IM, e, W, hIT, ⟨hps, hok, hnx, hbody, hQ⟩, r1, r2, r3, r4, r5⟩ => ⟨I, nxt, ok, IT, IM, e, W, hIT, fun L => ?_, r1, r2, r3, r4, r5⟩) noE⟩) noE
  subst hps
  refine ⟨fun i ps'' => i ≤ l.length ∧ ps'' = ps' ++ [.list (((l.take i).filterMap F).map o)], l.length, ⟨Nat.zero_le _, by simp⟩, ?_⟩
  rintro i ps'' ⟨hi, rfl⟩
  refine ⟨hok _, fun p hp => ?_, fun hp => ?_⟩
  · rw [hnx] at hp
    cases hx : l[i]? with
    | none => rw [hx] at hp; cases hp
    | some x =>
      rw [hx] at hp
      cases hp
      have hlt := (List.getElem?_eq_some_iff.mp hx).1
      have hmem : x ∈ l := List.mem_of_getElem? hx
      have htk : (l.take (i + 1)).filterMap F = (l.take i).filterMap F ++ (F x).toList := by
        rw [List.take_succ, hx, List.filterMap_append]
        cases hF : F x with
        | none => simp [hF]
        | some y => simp [hF]
      refine ⟨hlt, fun A φ s v R S hv => wpAny_mono (hbody L x _ hmem A φ s v R S hv) (fun _ s' ⟨φ', m', ps'', q, S', x'⟩ => ⟨φ', m', ps'', fun A φ s R S => ?_, S', x'⟩) noE⟩
      refine wpAny_mono (q A φ s R S) (fun b s' ⟨φ', ps3, ⟨hps3, hb, hel⟩, S', x'⟩ => ⟨φ', ps3, ⟨fun hbt => ?_, fun hbf => ?_⟩, S', x'⟩) noE
      · subst hps3
        cases hF : F x with
        | none => rw [hF] at hb; rw [hb] at hbt; cases hbt
        | some y =>
          refine AE.mono (hel y hF) ?_
          rintro q ps4 ⟨rfl, rfl⟩
          refine ⟨((l.take i).filterMap F).map o, by simp, ?_, hlt, ?_⟩
          · have h1 : ((List.take i l).filterMap F).length ≤ (List.take i l).length := List.length_filterMap_le _ _
            rw [List.length_take] at h1
            rw [List.length_map]
            omega
          · rw [htk, hF]
            simp
      · subst hps3
        have : F x = none := by
          cases hF : F x with
          | none => rfl
          | some y => rw [hF] at hb; rw [hb] at hbf; cases hbf
        refine ⟨hlt, ?_⟩
        rw [htk, this]
        simp
  · rw [hnx] at hp
    have : l.take i = l := by
      cases hx : l[i]? with
      | none => rw [List.getElem?_eq_none_iff] at hx; exact List.take_of_length_le hx
      | some x => rw [hx] at hp; cases hp
    rw [this]
    exact hQ
/-- the same over known items by a function -/
theorem CG_F {α β : Type} (l : List α) (g : α → PV) (F : α → Option β) (o : β → PV) {elt target iter : Expr} {ifs : List Expr} {sc : Scope} {pos : Pos} {Q : PV → List PO → Prop} (hc : compOkB C sc = true)
    (hl : l.length ≤ 1000) (ho : ∀ y, blw ps.length (o y))
    (h : AIt C n target iter m ps fun nxt ok ps₁ => ps₁ = ps ∧ (∀ acc, ok (ps ++ [.list acc])) ∧ (∀ i acc, nxt i (ps ++ [.list acc]) = (l[i]?).map g) ∧
      (∀ L x acc, x ∈ l → AT (cCtx C sc L) n target (g x) (cM C sc L m) (ps ++ [.list acc]) fun m₁ ps₂ => AIfs (cCtx C sc L) n ifs m₁ ps₂ fun b ps₃ => ps₃ = ps ++ [.list acc] ∧ b = (F x).isSome ∧
        ∀ y, F x = some y → AE (cCtx C sc L) n elt m₁ (ps ++ [.list acc]) fun q ps₄ => ps₄ = ps ++ [.list acc] ∧ q = o y) ∧
      Q (.lst ((l.filterMap F).map o)) ps)
    (hs : ∀ x, foldedSetIterable iter C.env x = pure x := by intro _; rfl) :
    CG C n elt target iter ifs sc pos m ps Q :=
  CG_drop (CG_FO l g F o hc hl (AIt.mono h fun nxt ok ps' ⟨h1, h2, h3, h4, h5⟩ => ⟨h1, h2, h3, h4, _, rfl, rfl, h5, blws_map ho _⟩) hs)

theorem AE_CG {elt target iter : Expr} {ifs : List Expr} {rest : List Comprehension} {sc : Scope} {pos : Pos} {Q : PV → List PO → Prop} (h : CGn C n elt ⟨target, iter, ifs, 0⟩ rest sc pos m ps Q) : AE C n (.ListComp elt (⟨target, iter, ifs, 0⟩ :: rest) sc pos) m ps Q := by
  intro A φ s R S
  rw [eval_ListComp]
  refine h A φ s _ none _ R S fun v s' L ml ⟨φ', p, ps', q, S', hv, x', hL⟩ ap hn hsL => ⟨_, hn, fun h'' hs'' => ?_⟩
  have hns : ∀ o vs n, s'.heap.get? L = some o → o.data ≠ .seq vs n := fun o vs n e ed => by
    obtain ⟨o', es, ep, e', ed', _⟩ := hn
    rw [e'] at e; cases e; rw [ed] at ed'; cases ed'
  have S5 := S'.iter s'.toks hs''.extBut ap hL hns
  have mv : Mv (fun b => b = L) φ' φ' s'.heap h'' := Mv.iter hs''.extBut
  exact ⟨φ', p, ps', q, S5, VR.ext mv (fun b hb o vs n e => hns o vs n (by rw [← hb]; exact e)) hv, x'.iter hs''.extBut hsL⟩

theorem AS_CG {x : Str} {p' spos : Pos} {elt target iter : Expr} {ifs : List Expr} {sc : Scope} {pos : Pos} {Q : AF → List (Option PV) → List PO → Prop} {y : Str × Slot}
    (hs : swapsWith (.ListComp elt [⟨target, iter, ifs, 0⟩] sc pos) (some (.Name x p')) spos.line C.env = pure true) (hy : slotAt C x = some y)
    (h : CG C n elt target iter ifs sc pos m ps fun p ps₁ => Q .next (upd C m x p) ps₁) (hw : ∀ c, y.2 ≠ .cap c := by intro c h; cases h) : AS C n (.Assign [.Name x p'] (.ListComp elt [⟨target, iter, ifs, 0⟩] sc pos) spos) m ps Q := by
  intro A φ s R S
  rw [exec_Assign_Name_used _ _ _ _ hs]
  refine wpAny_bind (wpAny_standAt (wpAny_bind ?_))
  show wpAny _ A (do let _ ← comprehension (.ListComp elt [⟨target, iter, ifs, 0⟩] sc pos) sc C.env _ (newList []) false (eval iter C.env) (some (assign (.Name x p') C.env))) _ _ s
  refine wpAny_bind (wpAny_mono (h A φ s _ (some (assign (.Name x p') C.env)) (fun _ s' => PostS C φ s.heap Q .next s') R S ?_) (fun _ s' hq => wpAny_pure (wpAny_pure hq)) noE)
  rintro v s' L ml ⟨φ', p, ps', q, S', hv, x', hL⟩ ap hn hsL
  show wpAny _ A (assign (.Name x p') C.env v) _ _ _
  refine wpAny_assign_Name (wpAny_store S' hv hy hw fun h₂ t S₂ x₂ => ?_)
  have hn₂ : h₂.Ns L ml := by
    obtain ⟨o, es, ep, e, r⟩ := hn
    refine ⟨o, es, ep, x₂.keep L o e hL fun hw' => ?_, r⟩
    rcases Ctx.W.cell C hw' with e' | hc
    · exact ap.loc e'
    · exact ap.cell hc
  refine ⟨ml, hn₂, fun h'' hs'' => ?_⟩
  have hns : ∀ o vs n, h₂.get? L = some o → o.data ≠ .seq vs n := fun o vs n e ed => by
    obtain ⟨o', es, ep, e', ed', _⟩ := hn₂
    rw [e'] at e; cases e; rw [ed] at ed'; cases ed'
  exact ⟨φ', .next, _, ps', q, S₂.iter _ hs''.extBut ap hL hns, rfl, (x'.trans x₂).iter hs''.extBut hsL⟩
end Mine

namespace Mine
open PySem PySem.Calls PyProof.Rows PySem.W PySem.SeqAt PySem.Spec
open AutoSeq1 (wpAny_loadPart')

abbrev kvItO (cls : String) (d : Addr) (i n ep : Nat) : Obj := { cls := .type cls, data := .fields #[.ref d, .int i 0, .int n 0, .int ep 0] }

section
variable {prog : Program} {w : World} {A : Around} {E : Value → Shared → Prop} {s : Shared} {it d : Addr} {i ep : Nat} {od : Obj} {es : Array DictEntry} {Q : Option Value → Shared → Prop}

theorem keyit_item {e : DictEntry} (hit : s.heap.get? it = some (kvItO "dict_keyiterator" d i es.size ep)) (hod : s.heap.get? d = some od) (hdd : od.data = .dict es ep) (hx : es[i]? = some e)
    (hQ : ∀ h', h'.get? it = some (kvItO "dict_keyiterator" d (i + 1) es.size ep) → Heap.SameBut it s.heap h' → Q (some e.key) { s with heap := h' }) :
    wpAny (model prog w) A (pyNext (.ref it)) Q E s := by
  have hT : s.TypeIs (.ref it) "dict_keyiterator" := ⟨_, hit, rfl⟩
  have hm : (if (i : Int) < 0 then none else es[(i : Int).toNat]?) = some e := by rw [if_neg (by omega)]; simpa using hx
  unfold pyNext
  refine wpAny_bind (wpAny_attempt (wpAny_callSpecial?_slot (name := Str.ofString "__next__") hT F.slot_dict_keyiterator_next
    (wpAny_call_entry F.slot_dict_keyiterator_next hT F.entry_dict_keyiterator_next ?_ (F.args_dict_keyiterator_next_1 _))))
  unfold Builtin.«dict_keyiterator.__next__»
  wp_walk using wpAny_typeNameOfWhole_keyiter hT, wpAny_fieldsOf hit rfl, wpAny_dictEntries hod hdd, wpAny_dictEpoch hod hdd, wpAny_isOneOf_keyiter hT
  rw [hm]
  wp_walk using wpAny_typeNameOfWhole_keyiter hT, wpAny_isOneOf_keyiter hT
  refine ⟨_, rfl, wpAny_pure (hQ _ ((Heap.get?_update_self _ hit rfl).trans (congrArg some ?_)) (Heap.SameBut.update ..))⟩
  with_unfolding_all rfl

theorem valit_item {e : DictEntry} (hit : s.heap.get? it = some (kvItO "dict_valueiterator" d i es.size ep)) (hod : s.heap.get? d = some od) (hdd : od.data = .dict es ep) (hx : es[i]? = some e)
    (hQ : ∀ h', h'.get? it = some (kvItO "dict_valueiterator" d (i + 1) es.size ep) → Heap.SameBut it s.heap h' → Q (some e.val) { s with heap := h' }) :
    wpAny (model prog w) A (pyNext (.ref it)) Q E s := by
  have hT : s.TypeIs (.ref it) "dict_valueiterator" := ⟨_, hit, rfl⟩
  have hm : (if (i : Int) < 0 then none else es[(i : Int).toNat]?) = some e := by rw [if_neg (by omega)]; simpa using hx
  unfold pyNext
  refine wpAny_bind (wpAny_attempt (wpAny_callSpecial?_slot (name := Str.ofString "__next__") hT F.slot_dict_valueiterator_next
    (wpAny_call_entry F.slot_dict_valueiterator_next hT F.entry_dict_valueiterator_next ?_ (F.args_dict_valueiterator_next_1 _))))
  unfold Builtin.«dict_valueiterator.__next__»
  wp_walk using wpAny_typeNameOfWhole_valiter hT, wpAny_fieldsOf hit rfl, wpAny_dictEntries hod hdd, wpAny_dictEpoch hod hdd, wpAny_isOneOf_valiter hT
  rw [hm]
  wp_walk using wpAny_typeNameOfWhole_valiter hT, wpAny_isOneOf_valiter hT
  refine ⟨_, rfl, wpAny_pure (hQ _ ((Heap.get?_update_self _ hit rfl).trans (congrArg some ?_)) (Heap.SameBut.update ..))⟩
  with_unfolding_all rfl


theorem keyit_end (hh : A.handled = none) (hit : s.heap.get? it = some (kvItO "dict_keyiterator" d i es.size ep)) (hod : s.heap.get? d = some od) (hdd : od.data = .dict es ep) (hx : es[i]? = none)
    (hQ : ∀ h', Heap.ExtBut it s.heap h' → Q none { s with heap := h' }) :
    wpAny (model prog w) A (pyNext (.ref it)) Q E s := by
  have hT : s.TypeIs (.ref it) "dict_keyiterator" := ⟨_, hit, rfl⟩
  have hm : (if (i : Int) < 0 then none else es[(i : Int).toNat]?) = none := by rw [if_neg (by omega)]; simpa using hx
  unfold pyNext
  refine wpAny_bind (wpAny_attempt (wpAny_callSpecial?_slot (name := Str.ofString "__next__") hT F.slot_dict_keyiterator_next
    (wpAny_call_entry F.slot_dict_keyiterator_next hT F.entry_dict_keyiterator_next ?_ (F.args_dict_keyiterator_next_1 _))))
  unfold Builtin.«dict_keyiterator.__next__»
  wp_walk using wpAny_typeNameOfWhole_keyiter hT, wpAny_fieldsOf hit rfl, wpAny_dictEntries hod hdd, wpAny_dictEpoch hod hdd, wpAny_isOneOf_keyiter hT
  rw [hm]
  refine wpAny_bind (wpAny_bind (wpAny_typeNameOfWhole_keyiter hT (wpAny_pure ?_)))
  refine wpAny_bind (wpAny_setField_rec hit (by exact (by decide : 0 < 4)) fun h1 _ hs1 => ?_)
  refine wpAny_bind ?_
  simp only [newExc, newTuple]
  refine wpAny_bind (wpAny_newObj_type ?_ (by size_fits))
  refine wpAny_bind (m := firstArgMember _ _) (wpAny_of_eq (a := Value.none) (by first | rfl | (simp only [firstArgMember]; rfl)) ?_)
  refine wpAny_newObj_type ?_ (by size_fits)
  simp only [raiseNew]
  refine wpAny_bind (wpAny_handled ?_)
  rw [show A.in1.handled = none from hh]
  refine wpAny_bind (wpAny_pure (wpAny_throw ?_))
  refine wpAny_bind (wpAny_isInstance (T := "StopIteration") (b := true) ⟨_, Heap.get?_push_size _ rfl, rfl⟩ isSubtype_stop ?_)
  exact wpAny_pure (hQ _ ((hs1.extBut.push _).push _))

theorem valit_end (hh : A.handled = none) (hit : s.heap.get? it = some (kvItO "dict_valueiterator" d i es.size ep)) (hod : s.heap.get? d = some od) (hdd : od.data = .dict es ep) (hx : es[i]? = none)
    (hQ : ∀ h', Heap.ExtBut it s.heap h' → Q none { s with heap := h' }) :
    wpAny (model prog w) A (pyNext (.ref it)) Q E s := by
  have hT : s.TypeIs (.ref it) "dict_valueiterator" := ⟨_, hit, rfl⟩
  have hm : (if (i : Int) < 0 then none else es[(i : Int).toNat]?) = none := by rw [if_neg (by omega)]; simpa using hx
  unfold pyNext
  refine wpAny_bind (wpAny_attempt (wpAny_callSpecial?_slot (name := Str.ofString "__next__") hT F.slot_dict_valueiterator_next
    (wpAny_call_entry F.slot_dict_valueiterator_next hT F.entry_dict_valueiterator_next ?_ (F.args_dict_valueiterator_next_1 _))))
  unfold Builtin.«dict_valueiterator.__next__»
  wp_walk using wpAny_typeNameOfWhole_valiter hT, wpAny_fieldsOf hit rfl, wpAny_dictEntries hod hdd, wpAny_dictEpoch hod hdd, wpAny_isOneOf_valiter hT
  rw [hm]
  refine wpAny_bind (wpAny_bind (wpAny_typeNameOfWhole_valiter hT (wpAny_pure ?_)))
  refine wpAny_bind (wpAny_setField_rec hit (by exact (by decide : 0 < 4)) fun h1 _ hs1 => ?_)
  refine wpAny_bind ?_
  simp only [newExc, newTuple]
  refine wpAny_bind (wpAny_newObj_type ?_ (by size_fits))
  refine wpAny_bind (m := firstArgMember _ _) (wpAny_of_eq (a := Value.none) (by first | rfl | (simp only [firstArgMember]; rfl)) ?_)
  refine wpAny_newObj_type ?_ (by size_fits)
  simp only [raiseNew]
  refine wpAny_bind (wpAny_handled ?_)
  rw [show A.in1.handled = none from hh]
  refine wpAny_bind (wpAny_pure (wpAny_throw ?_))
  refine wpAny_bind (wpAny_isInstance (T := "StopIteration") (b := true) ⟨_, Heap.get?_push_size _ rfl, rfl⟩ isSubtype_stop ?_)
  exact wpAny_pure (hQ _ ((hs1.extBut.push _).push _))

/-! ### the iterators' birth -/
theorem iter_dict {Q : Value → Shared → Prop} (hd : (d == sysModules) = false) (hod : s.heap.get? d = some od) (hc : od.cls = .type "dict") (hdd : od.data = .dict es ep)
    (hQ : Q (.ref s.heap.objs.size) { s with heap := s.heap.push (kvItO "dict_keyiterator" d 0 es.size ep) }) : wpAny (model prog w) A (pyIter (.ref d)) Q E s := by
  have hT : s.TypeIs (.ref d) "dict" := ⟨_, hod, hc⟩
  refine wpAny_pyIter_slot hT F.slot_dict_iter (wpAny_call_entry F.slot_dict_iter hT F.entry_dict_iter ?_ (F.args_dict_iter_1 _))
  unfold Builtin.«dict.__iter__»
  wp_walk using wpAny_dictEntries hod hdd, wpAny_dictEpoch hod hdd
  exact ⟨_, rfl, "dict_keyiterator", _, ⟨_, Heap.get?_push_size _ rfl, rfl⟩, F.slot_dict_keyiterator_next.lookup, hQ⟩

theorem iter_values {Q : Value → Shared → Prop} {v : Addr} (hv : s.heap.get? v = some { cls := .type "dict_values", data := .fields #[.ref d] }) (hod : s.heap.get? d = some od) (hdd : od.data = .dict es ep)
    (hQ : Q (.ref s.heap.objs.size) { s with heap := s.heap.push (kvItO "dict_valueiterator" d 0 es.size ep) }) : wpAny (model prog w) A (pyIter (.ref v)) Q E s := by
  have hT : s.TypeIs (.ref v) "dict_values" := ⟨_, hv, rfl⟩
  refine wpAny_pyIter_slot hT F.slot_dict_values_iter (wpAny_call_entry F.slot_dict_values_iter hT F.entry_dict_values_iter ?_ (F.args_dict_values_iter_1 _))
  unfold Builtin.«dict_values.__iter__»
  wp_walk using wpAny_dictEntries hod hdd, wpAny_dictEpoch hod hdd, wpAny_field hv rfl (i := 0) (x := .ref d) rfl
  exact ⟨_, rfl, "dict_valueiterator", _, ⟨_, Heap.get?_push_size _ rfl, rfl⟩, F.slot_dict_valueiterator_next.lookup, hQ⟩

theorem call_values {Q : Value → Shared → Prop} (hd : (d == sysModules) = false) (hod : s.heap.get? d = some od) (hc : od.cls = .type "dict")
    (hQ : Q (.ref s.heap.objs.size) { s with heap := s.heap.push { cls := .type "dict_values", data := .fields #[.ref d] } }) : wpAny (model prog w) A (call (.builtin "dict.values") [.ref d]) Q E s := by
  have hT : s.TypeIs (.ref d) "dict" := ⟨_, hod, hc⟩
  refine wpAny_call_entry F.slot_dict_values hT F.entry_dict_values ?_ (F.args_dict_values_1 _)
  unfold Builtin.«dict.values»
  refine wpAny_bind ?_
  unfold Builtin.Dict.noArgs
  refine wpAny_bind (wpAny_notOrdered_dict hT ?_)
  wp_walk
  exact ⟨_, rfl, hQ⟩

theorem call_items {Q : Value → Shared → Prop} (hd : (d == sysModules) = false) (hod : s.heap.get? d = some od) (hc : od.cls = .type "dict")
    (hQ : Q (.ref s.heap.objs.size) { s with heap := s.heap.push { cls := .type "dict_items", data := .fields #[.ref d] } }) : wpAny (model prog w) A (call (.builtin "dict.items") [.ref d]) Q E s := by
  have hT : s.TypeIs (.ref d) "dict" := ⟨_, hod, hc⟩
  refine wpAny_call_entry F.slot_dict_items hT F.entry_dict_items ?_ (F.args_dict_items_1 _)
  unfold Builtin.«dict.items»
  refine wpAny_bind ?_
  unfold Builtin.Dict.noArgs
  refine wpAny_bind (wpAny_notOrdered_dict hT ?_)
  wp_walk
  exact ⟨_, rfl, hQ⟩

abbrev itmItO (d : Addr) (x : Value) (i n ep : Nat) (ok ov : Value) : Obj := { cls := .type "dict_itemiterator", data := .fields #[x, .bool false, .ref d, .int i 0, .int n 0, .int ep 0, ok, ov] }

theorem iter_items {Q : Value → Shared → Prop} {v : Addr} (hv : s.heap.get? v = some { cls := .type "dict_items", data := .fields #[.ref d] }) (hod : s.heap.get? d = some od) (hdd : od.data = .dict es ep)
    (hQ : Q (.ref s.heap.objs.size) { s with heap := s.heap.push (itmItO d .none 0 es.size ep .none .none) }) : wpAny (model prog w) A (pyIter (.ref v)) Q E s := by
  have hT : s.TypeIs (.ref v) "dict_items" := ⟨_, hv, rfl⟩
  refine wpAny_pyIter_slot hT F.slot_dict_items_iter (wpAny_call_entry F.slot_dict_items_iter hT F.entry_dict_items_iter ?_ (F.args_dict_items_iter_1 _))
  unfold Builtin.«dict_items.__iter__»
  wp_walk using wpAny_dictEntries hod hdd, wpAny_dictEpoch hod hdd, wpAny_field hv rfl (i := 0) (x := .ref d) rfl
  exact ⟨_, rfl, "dict_itemiterator", _, ⟨_, Heap.get?_push_size _ rfl, rfl⟩, F.slot_dict_itemiterator_next.lookup, hQ⟩

theorem itemit_item {e : DictEntry} {ok ov : Value} (hit : s.heap.get? it = some (itmItO d .none i es.size ep ok ov)) (hod : s.heap.get? d = some od) (hdd : od.data = .dict es ep) (hx : es[i]? = some e)
    (hQ : ∀ h' (a : Addr) ok' ov', h'.get? it = some (itmItO d (rawInt a) (i + 1) es.size ep ok' ov') → h'.get? a = some (tupO #[e.key, e.val] 0) → s.heap.get? a = none → Heap.ExtBut it s.heap h' → Q (some (.ref a)) { s with heap := h' }) :
    wpAny (model prog w) A (pyNext (.ref it)) Q E s := by
  have hT : s.TypeIs (.ref it) "dict_itemiterator" := ⟨_, hit, rfl⟩
  have hm : (if (i : Int) < 0 then none else es[(i : Int).toNat]?) = some e := by rw [if_neg (by omega)]; simpa using hx
  unfold pyNext
  refine wpAny_bind (wpAny_attempt (wpAny_callSpecial?_slot (name := Str.ofString "__next__") hT F.slot_dict_itemiterator_next
    (wpAny_call_entry F.slot_dict_itemiterator_next hT F.entry_dict_itemiterator_next ?_ (F.args_dict_itemiterator_next_1 _))))
  unfold Builtin.«dict_itemiterator.__next__»
  wp_walk using wpAny_typeNameOfWhole_itemiter hT, wpAny_fieldsOf hit rfl, wpAny_dictEntries hod hdd, wpAny_dictEpoch hod hdd, wpAny_isOneOf_itemiter hT
  rw [hm]
  refine wpAny_bind (wpAny_bind (wpAny_typeNameOfWhole_itemiter hT (wpAny_pure ?_)))
  refine wpAny_bind (wpAny_isOneOf_itemiter hT ?_)
  refine wpAny_bind (wpAny_setField_rec hit (by exact (by decide : 3 < 8)) fun h1 g1 s1 => ?_)
  have g1' : h1.get? it = some (itmItO d .none (i + 1) es.size ep ok ov) := by
    have e1 : ((i + 1 : Nat) : Int) = (i : Int) + 1 := by omega
    unfold itmItO; rw [e1]; exact g1
  have hT1 : ({ s with heap := h1 } : Shared).TypeIs (.ref it) "dict_itemiterator" := ⟨_, g1', rfl⟩
  refine wpAny_bind (wpAny_holding ?_)
  refine wpAny_bind (wpAny_isOneOf_itemiter hT1 ?_)
  refine wpAny_bind (wpAny_isOneOf_itemiter hT1 ?_)
  show wpAny _ _ (Builtin.Dict_items.pairFromOwner (.ref it) 6 e.key e.val) _ _ { s with heap := h1 }
  unfold Builtin.Dict_items.pairFromOwner
  refine wpAny_bind (wpAny_newTuple ?_)
  have g2 : (h1.push (tupO [e.key, e.val].toArray 0)).get? it = some (itmItO d .none (i + 1) es.size ep ok ov) := Heap.get?_push_of_some _ g1'
  have hlt : it < h1.objs.size := Heap.lt_size g1'
  have a2 : (h1.push (tupO [e.key, e.val].toArray 0)).get? h1.objs.size = some (tupO #[e.key, e.val] 0) := Heap.get?_push_size _ rfl
  have k2 : Heap.ExtBut it s.heap (h1.push (tupO [e.key, e.val].toArray 0)) := s1.extBut.push _
  have hnone : s.heap.get? h1.objs.size = none := by rw [s1.1]; exact get_size _
  generalize (h1.push (tupO [e.key, e.val].toArray 0)) = h2 at g2 a2 k2
  refine wpAny_bind ?_
  unfold Builtin.Dict_items.ownedTupleIsFree
  refine wpAny_bind (wpAny_field g2 rfl (x := .none) rfl (wpAny_pure ?_))
  simp only [if_true]
  refine wpAny_bind (wpAny_field g2 rfl (x := ok) rfl ?_)
  refine wpAny_bind (wpAny_field g2 rfl (x := ov) rfl ?_)
  have ne : h1.objs.size ≠ it := Nat.ne_of_gt hlt
  refine wpAny_bind (wpAny_setField_rec g2 (by exact (by decide : 6 < 8)) fun h3 g3 s3 => ?_)
  refine wpAny_bind (wpAny_setField_rec g3 (by exact (by decide : 7 < 8)) fun h4 g4 s4 => ?_)
  refine wpAny_bind (wpAny_setField_rec g4 (by exact (by decide : 0 < 8)) fun h5 g5 s5 => ?_)
  refine wpAny_bind (wpAny_setField_rec g5 (by exact (by decide : 1 < 8)) fun h6 g6 s6 => ?_)
  refine wpAny_bind (wpAny_letGo (wpAny_pure (wpAny_pure ⟨_, rfl, wpAny_pure (hQ h6 h1.objs.size e.key e.val g6 ?_ hnone ?_)⟩)))
  · exact s6.extBut _ _ ne (s5.extBut _ _ ne (s4.extBut _ _ ne (s3.extBut _ _ ne a2)))
  · exact ((k2.trans s3.extBut).trans s4.extBut |>.trans s5.extBut).trans s6.extBut

theorem itemit_end {ok ov : Value} (hh : A.handled = none) (hit : s.heap.get? it = some (itmItO d .none i es.size ep ok ov)) (hod : s.heap.get? d = some od) (hdd : od.data = .dict es ep) (hx : es[i]? = none)
    (hQ : ∀ h', Heap.ExtBut it s.heap h' → Q none { s with heap := h' }) :
    wpAny (model prog w) A (pyNext (.ref it)) Q E s := by
  have hT : s.TypeIs (.ref it) "dict_itemiterator" := ⟨_, hit, rfl⟩
  have hm : (if (i : Int) < 0 then none else es[(i : Int).toNat]?) = none := by rw [if_neg (by omega)]; simpa using hx
  unfold pyNext
  refine wpAny_bind (wpAny_attempt (wpAny_callSpecial?_slot (name := Str.ofString "__next__") hT F.slot_dict_itemiterator_next
    (wpAny_call_entry F.slot_dict_itemiterator_next hT F.entry_dict_itemiterator_next ?_ (F.args_dict_itemiterator_next_1 _))))
  unfold Builtin.«dict_itemiterator.__next__»
  wp_walk using wpAny_typeNameOfWhole_itemiter hT, wpAny_fieldsOf hit rfl, wpAny_dictEntries hod hdd, wpAny_dictEpoch hod hdd, wpAny_isOneOf_itemiter hT
  rw [hm]
  refine wpAny_bind (wpAny_bind (wpAny_typeNameOfWhole_itemiter hT (wpAny_pure ?_)))
  refine wpAny_bind (wpAny_setField_rec hit (by exact (by decide : 2 < 8)) fun h1 _ hs1 => ?_)
  refine wpAny_bind ?_
  simp only [newExc, newTuple]
  refine wpAny_bind (wpAny_newObj_type ?_ (by size_fits))
  refine wpAny_bind (m := firstArgMember _ _) (wpAny_of_eq (a := Value.none) (by first | rfl | (simp only [firstArgMember]; rfl)) ?_)
  refine wpAny_newObj_type ?_ (by size_fits)
  simp only [raiseNew]
  refine wpAny_bind (wpAny_handled ?_)
  rw [show A.in1.handled = none from hh]
  refine wpAny_bind (wpAny_pure (wpAny_throw ?_))
  refine wpAny_bind (wpAny_isInstance (T := "StopIteration") (b := true) ⟨_, Heap.get?_push_size _ rfl, rfl⟩ isSubtype_stop ?_)
  exact wpAny_pure (hQ _ ((hs1.extBut.push _).push _))
end
end Mine

namespace Mine
open PySem PySem.Calls PyProof.Rows PySem.W PySem.SeqAt PySem.Spec

variable {C : Ctx} {n : Nat} {φ φ' : List Addr} {m : List (Option PV)} {ps : List PO} {s : Shared} {h h' : Heap}

/-! ## look-ups -/
theorem find_any {α : Type} (q : α → Bool) : ∀ l : List α, (l.find? q).isSome = l.any q
  | [] => rfl
  | x :: l => by
    rw [List.find?_cons, List.any_cons]
    cases q x with
    | true => rfl
    | false => exact find_any q l
section
variable {K : Type} [DecidableEq K]
def kget (es : List (K × PV)) (k : K) : Option PV := (es.find? fun e => decide (e.1 = k)).map (·.2)
def kput (es : List (K × PV)) (k : K) (p : PV) : List (K × PV) := if es.any (fun e => decide (e.1 = k)) then es.map (fun e => if e.1 = k then (e.1, p) else e) else es ++ [(k, p)]
def kdel (es : List (K × PV)) (k : K) : List (K × PV) := es.filter fun e => decide (e.1 ≠ k)

theorem kget_at {k : K} : ∀ {es : List (K × PV)} {kvs : List (K × Value)}, kvs.map (·.1) = es.map (·.1) → VRs φ h (es.map (·.2)) (kvs.map (·.2)) →
    (kget es k = none → valueAt kvs k = none) ∧ ∀ p, kget es k = some p → ∃ v, valueAt kvs k = some v ∧ VR φ h p v
  | [], [], _, _ => ⟨fun _ => rfl, fun p e => by simp [kget] at e⟩
  | [], _ :: _, e, _ => by simp at e
  | _ :: _, [], e, _ => by simp at e
  | (k1, p1) :: es, (k2, v2) :: kvs, e, r => by
    rw [List.map_cons, List.map_cons] at e r
    obtain ⟨e1, e2⟩ := List.cons.inj e
    have e1' : k2 = k1 := e1
    subst e1'
    obtain ⟨v, us, e3, hv, hr⟩ := VRs.cons_inv r
    obtain ⟨rfl, rfl⟩ := List.cons.inj e3
    have ih := kget_at (k := k) e2 hr
    unfold kget valueAt at ih ⊢
    by_cases hk : k2 = k
    · subst hk
      simp only [List.find?_cons, decide_true]
      exact ⟨fun e => (by cases e), fun p e => (by cases e; exact ⟨_, rfl, hv⟩)⟩
    · simp only [List.find?_cons, hk, decide_false]
      exact ih

theorem any_keys {k : K} {β γ : Type} : ∀ {es : List (K × β)} {kvs : List (K × γ)}, kvs.map (·.1) = es.map (·.1) → (es.any fun e => decide (e.1 = k)) = (kvs.any fun e => decide (e.1 = k)) := fun {es kvs} e => by
  have h1 : (es.any fun e => decide (e.1 = k)) = (es.map (·.1)).any fun x => decide (x = k) := by rw [List.any_map]; rfl
  have h2 : (kvs.any fun e => decide (e.1 = k)) = (kvs.map (·.1)).any fun x => decide (x = k) := by rw [List.any_map]; rfl
  rw [h1, h2, e]

theorem keys_put {k : K} {γ : Type} (c : γ) (es : List (K × γ)) : (es.map fun e => if e.1 = k then (e.1, c) else e).map (·.1) = es.map (·.1) := by
  rw [List.map_map]
  refine List.map_congr_left fun e _ => ?_
  show (if e.1 = k then (e.1, c) else e).1 = e.1
  split <;> rfl

theorem vrs_put {k : K} {p : PV} {v : Value} (hv : VR φ h p v) : ∀ {es : List (K × PV)} {kvs : List (K × Value)}, kvs.map (·.1) = es.map (·.1) → VRs φ h (es.map (·.2)) (kvs.map (·.2)) →
    VRs φ h ((es.map fun e => if e.1 = k then (e.1, p) else e).map (·.2)) ((kvs.map fun e => if e.1 = k then (e.1, v) else e).map (·.2))
  | [], [], _, r => r
  | [], _ :: _, e, _ => by simp at e
  | _ :: _, [], e, _ => by simp at e
  | (k1, p1) :: es, (k2, v2) :: kvs, e, r => by
    rw [List.map_cons, List.map_cons] at e r
    obtain ⟨e1, e2⟩ := List.cons.inj e
    have e1' : k2 = k1 := e1
    subst e1'
    obtain ⟨v', us, e3, hv', hr⟩ := VRs.cons_inv r
    obtain ⟨rfl, rfl⟩ := List.cons.inj e3
    have ih := vrs_put (k := k) hv e2 hr
    rw [List.map_cons, List.map_cons, List.map_cons, List.map_cons]
    by_cases hk : k2 = k
    · subst hk; simp only [if_true]; exact VRs.cons hv ih
    · simp only [hk, if_false]; exact VRs.cons hv' ih

theorem stored_rel {k : K} {p : PV} {v : Value} {es : List (K × PV)} {kvs : List (K × Value)} (hv : VR φ h p v) (e : kvs.map (·.1) = es.map (·.1)) (r : VRs φ h (es.map (·.2)) (kvs.map (·.2))) :
    (stored kvs k v).map (·.1) = (kput es k p).map (·.1) ∧ VRs φ h ((kput es k p).map (·.2)) ((stored kvs k v).map (·.2)) := by
  unfold stored kput
  rw [any_keys (k := k) e]
  split
  · exact ⟨by rw [keys_put, keys_put, e], vrs_put hv e r⟩
  · refine ⟨by rw [List.map_append, List.map_append, e]; rfl, ?_⟩
    rw [List.map_append, List.map_append]
    exact r.append (VRs.cons hv VRs.nil)

end

/-! ## a dict as its entries -/
def kvs (ps : List PO) : PV → Option (List (PV × PV))
  | .obj k => match ps[k]? with
    | some (.idict es _) => some (es.map fun e => (.int e.1, e.2))
    | some (.tdict es _) => some (es.map fun e => (.tup (e.1.map KA.pv), e.2))
    | _ => none
  | _ => none
def epOf (ps : List PO) : PV → Option Nat
  | .obj k => match ps[k]? with
    | some (.idict _ ep) => some ep
    | some (.tdict _ ep) => some ep
    | _ => none
  | _ => none

theorem ints_keys : ∀ {ks : List Int} {vs : List Value}, vs.length = ks.length → (∀ (i : Nat) k v, ks[i]? = some k → vs[i]? = some v → (intKind C.prog C.w).is k v = true) → VRs φ h (ks.map PV.int) vs
  | [], [], _, _ => VRs.nil
  | [], _ :: _, e, _ => by simp at e
  | _ :: _, [], e, _ => by simp at e
  | k :: ks, v :: vs, e, H => by
    refine VRs.cons ?_ (ints_keys (by simpa using e) fun i k v h1 h2 => H (i + 1) k v (by simpa using h1) (by simpa using h2))
    obtain ⟨t, rfl⟩ := Value.isInt_shape (k := k) (v := v) (H 0 k v rfl rfl)
    exact vr_int

theorem GSt.dict {B : Base} (S : GSt B φ ps s) {p : PV} {v : Value} {l : List (PV × PV)} {ep : Nat} (r : VR φ s.heap p v) (e : kvs ps p = some l) (e2 : epOf ps p = some ep) :
    ∃ a o ents, v = .ref a ∧ (a == sysModules) = false ∧ s.heap.get? a = some o ∧ o.ExactDict ∧ o.data = .dict ents ep ∧ ents.size = l.length ∧ VRs φ s.heap (l.map (·.1)) (ents.toList.map (·.key)) ∧ VRs φ s.heap (l.map (·.2)) (ents.toList.map (·.val)) := by
  cases p with
  | obj k =>
    obtain ⟨a, ha, rfl⟩ := VR.obj_inv r
    have hm : (a == sysModules) = false := beq_eq_false_iff_ne.mpr fun e => S.mod (e ▸ List.mem_of_getElem? ha)
    unfold kvs at e
    unfold epOf at e2
    cases hp : ps[k]? with
    | none => simp [hp] at e
    | some po =>
      cases po with
      | list l' => simp [hp] at e
      | idict es ep' =>
        simp [hp] at e e2; subst e e2
        obtain ⟨kv, ⟨o, ents, ho, hc, hd, hk, hpr, hn⟩, hks, hvs⟩ := S.objs k a _ ha hp
        have hl : ents.toList.length = kv.length := hpr.length
        have hl2 : kv.length = es.length := by simpa using congrArg List.length hks
        refine ⟨a, o, ents, rfl, hm, ho, hc, hd, by rw [List.length_map, ← Array.length_toList, hl, hl2], ?_, ?_⟩
        · have := ints_keys (C := { B with env := default, D := [] }) (φ := φ) (h := s.heap) (ks := es.map (·.1)) (vs := ents.toList.map (·.key)) (by simp [hl, hl2]) fun i k v h1 h2 => by
            rw [← hks, List.getElem?_map] at h1
            rw [List.getElem?_map] at h2
            cases hi : ents.toList[i]? with
            | none => rw [hi] at h2; cases h2
            | some en =>
              rw [hi] at h2; cases h2
              cases hj : kv[i]? with
              | none => rw [hj] at h1; cases h1
              | some kvi => rw [hj] at h1; cases h1; exact (hpr.get? hi hj).1
          rw [List.map_map] at this ⊢
          exact this
        · have : ents.toList.map (·.val) = kv.map (·.2) := by
            refine List.ext_getElem? fun i => ?_
            rw [List.getElem?_map, List.getElem?_map]
            cases hi : ents.toList[i]? with
            | none =>
              have : kv[i]? = none := by rw [List.getElem?_eq_none_iff] at hi ⊢; omega
              rw [this]; rfl
            | some en =>
              have hlt := (List.getElem?_eq_some_iff.mp hi).1
              have hj : kv[i]? = some kv[i] := List.getElem?_eq_getElem (by omega)
              rw [hj]
              exact congrArg some (hpr.get? hi hj).2
          rw [this, List.map_map]
          exact hvs
      | tdict es ep' =>
        simp [hp] at e e2; subst e e2
        obtain ⟨xs, ⟨o, ents, ho, hc, hd, he, hk, hn⟩, hks, h1, h2⟩ := S.objs k a _ ha hp
        have hl2 : xs.length = es.length := by simpa using congrArg List.length hks
        refine ⟨a, o, ents, rfl, hm, ho, hc, hd, by rw [List.length_map, ← Array.length_toList, he, List.length_map, hl2], ?_, ?_⟩
        · rw [he, List.map_map, List.map_map]; exact h1
        · rw [he, List.map_map, List.map_map]; exact h2
  | _ => cases e

/-! ## dicts with int keys -/
theorem St.idict (S : St C φ m ps s) {k : Nat} {es : List (Int × PV)} {ep : Nat} {v : Value} (r : VR φ s.heap (.obj k) v) (e : ps[k]? = some (.idict es ep)) :
    ∃ a kv, v = .ref a ∧ φ[k]? = some a ∧ (a == sysModules) = false ∧ s.heap.DictAt (intKind C.prog C.w) a kv ep ∧ kv.map (·.1) = es.map (·.1) ∧ VRs φ s.heap (es.map (·.2)) (kv.map (·.2)) := by
  obtain ⟨a, ha, rfl⟩ := VR.obj_inv r
  obtain ⟨kv, hd, hk, hr⟩ := S.objs k a _ ha e
  exact ⟨a, kv, rfl, ha, beq_eq_false_iff_ne.mpr fun e => S.mod (e ▸ List.mem_of_getElem? ha), hd, hk, hr⟩
theorem St.tdict (S : St C φ m ps s) {k : Nat} {es : List (List KA × PV)} {ep : Nat} {v : Value} (r : VR φ s.heap (.obj k) v) (e : ps[k]? = some (.tdict es ep)) :
    ∃ a xs, v = .ref a ∧ φ[k]? = some a ∧ (a == sysModules) = false ∧ TAt C.prog C.w s.heap a xs ep ∧ xs.map (·.1) = es.map (·.1) ∧
      VRs φ s.heap (es.map fun e => .tup (e.1.map KA.pv)) (xs.map fun x => .ref x.2.1) ∧ VRs φ s.heap (es.map (·.2)) (xs.map (·.2.2)) := by
  obtain ⟨a, ha, rfl⟩ := VR.obj_inv r
  obtain ⟨xs, hd, hk, h1, h2⟩ := S.objs k a _ ha e
  exact ⟨a, xs, rfl, ha, beq_eq_false_iff_ne.mpr fun e => S.mod (e ▸ List.mem_of_getElem? ha), hd, hk, h1, h2⟩

theorem isInt_of {C : Ctx} {i : Int} {t : Tok} : (intKind C.prog C.w).is i (.int i t) = true := intKind_is _ _ _ _

theorem AItem_idict {base slice : Expr} {k : Nat} {es : List (Int × PV)} {ep : Nat} {i : Int} {x : PV} {Q : PV → List PO → Prop} (e : ps[k]? = some (.idict es ep)) (hx : kget es i = some x) (q : Q x ps)
    (hs : ∀ o u, subscripted slice false o u = operate [o, u] (getItem o u) := by intro _ _; with_unfolding_all rfl) : AItem C n base slice (.obj k) (.int i) m ps Q := by
  intro A φ s v u R S hv hu
  obtain ⟨a, kv, rfl, ha, hm, hd, hk, hr⟩ := S.idict hv e
  obtain ⟨t, rfl⟩ := VR.int_inv hu
  obtain ⟨w, hw, hwr⟩ := (kget_at hk hr).2 x hx
  exact tail_any hd.dictOf.typeIs slot_dict_getitem.lookup (wpAny_getItem_of isInt_of hd.dictOf.mapOf hw (Post.now S _ hwr q)) (hs _ _)

theorem AO_inI {k : Nat} {es : List (Int × PV)} {ep : Nat} {i : Int} {Q : PV → List PO → Prop} (e : ps[k]? = some (.idict es ep)) (q : Q (.bool (kget es i).isSome) ps) : AO2 C n (compareOp .In) (.int i) (.obj k) m ps Q := by
  intro A φ s u v R S hu hv
  obtain ⟨a, kv, rfl, ha, hm, hd, hk, hr⟩ := S.idict hv e
  obtain ⟨t, rfl⟩ := VR.int_inv hu
  refine wpAny_in_of isInt_of hm hd.dictOf.mapOf ?_
  have : (valueAt kv i).isSome = (kget es i).isSome := by
    cases hg : kget es i with
    | none => rw [(kget_at hk hr).1 hg]; rfl
    | some p => obtain ⟨w, hw, _⟩ := (kget_at hk hr).2 p hg; rw [hw]; rfl
  rw [this]
  exact Post.now S _ vr_bool q
theorem AO_notInI {k : Nat} {es : List (Int × PV)} {ep : Nat} {i : Int} {Q : PV → List PO → Prop} (e : ps[k]? = some (.idict es ep)) (q : Q (.bool (!(kget es i).isSome)) ps) : AO2 C n (compareOp .NotIn) (.int i) (.obj k) m ps Q := by
  intro A φ s u v R S hu hv
  obtain ⟨a, kv, rfl, ha, hm, hd, hk, hr⟩ := S.idict hv e
  obtain ⟨t, rfl⟩ := VR.int_inv hu
  refine wpAny_notIn_of isInt_of hm hd.dictOf.mapOf ?_
  have : (valueAt kv i).isSome = (kget es i).isSome := by
    cases hg : kget es i with
    | none => rw [(kget_at hk hr).1 hg]; rfl
    | some p => obtain ⟨w, hw, _⟩ := (kget_at hk hr).2 p hg; rw [hw]; rfl
  rw [this]
  exact Post.now S _ vr_bool q

/-! ## stores -/
def ASet (C : Ctx) (n : Nat) (o i p : PV) (m : List (Option PV)) (ps : List PO) (Q : List PO → Prop) : Prop :=
  ∀ A φ s ov iv v, Room n A → St C φ m ps s → VR φ s.heap o ov → VR φ s.heap i iv → VR φ s.heap p v → wpAny (model C.prog C.w) A (setItem ov iv v) (fun _ => PostU C φ s.heap fun m' ps' => m' = m ∧ Q ps') NoE s
theorem AS_assign_sub {o i e : Expr} {p' pos : Pos} {Q : AF → List (Option PV) → List PO → Prop} (hs : swapsWith e (some (.Subscript o i p')) pos.line C.env = pure false)
    (h : AE C n e m ps fun p ps₁ => AE C n o m ps₁ fun po ps₂ => AE C n i m ps₂ fun pi ps₃ => ASet C n po pi p m ps₃ fun ps₄ => Q .next m ps₄) : AS C n (.Assign [.Subscript o i p'] e pos) m ps Q := by
  intro A φ s R S
  refine wpAny_Assign_Subscript (wpAny_mono (h A φ s R S) (fun v s₁ ⟨φ₁, p, ps₁, q₁, S₁, hv, x₁⟩ => wpAny_mono (q₁ A φ₁ s₁ R S₁) (fun ov s₂ ⟨φ₂, po, ps₂, q₂, S₂, ho, x₂⟩ =>
    wpAny_mono (q₂ A φ₂ s₂ R S₂) (fun iv s₃ ⟨φ₃, pi, ps₃, q₃, S₃, hi, x₃⟩ => wpAny_mono (q₃ A φ₃ s₃ ov iv v R S₃ (S₂.vr x₃ ho) hi (S₂.vr x₃ (S₁.vr x₂ hv))) (fun _ s₄ ⟨φ₄, m₄, ps₄, ⟨hm, q₄⟩, S₄, x₄⟩ => by
      subst hm
      exact ⟨φ₄, .next, m₄, ps₄, q₄, S₄, rfl, ((x₁.trans x₂).trans x₃).trans x₄⟩) noE) noE) noE) noE) hs

theorem ASet_idict {k : Nat} {es : List (Int × PV)} {ep : Nat} {i : Int} {x : PV} {Q : List PO → Prop} (e : ps[k]? = some (.idict es ep)) (hl : es.length ≤ 1000000) (q : ∀ ep', Q (ps.set k (.idict (kput es i x) ep'))) :
    ASet C n (.obj k) (.int i) x m ps Q := by
  intro A φ s ov iv v R S ho hi hv
  obtain ⟨a, kv, rfl, ha, hm, hd, hk, hr⟩ := S.idict ho e
  obtain ⟨t, rfl⟩ := VR.int_inv hi
  have hlen : kv.length = es.length := by simpa using congrArg List.length hk
  refine wpAny_setItem_pairs isInt_of hd.dictOf (fun h' hd' hs => ?_) (by rw [hlen, sizeLine_eq]; omega)
  obtain ⟨ep', hd''⟩ := hd'.dictAt
  obtain ⟨S', x'⟩ := S.turn (po := .idict (kput es i x) ep') (s.toks + 1) ha hs (let ⟨o, _, e, _⟩ := hd''; ⟨o, e⟩) fun xx => by
    obtain ⟨r1, r2⟩ := stored_rel (k := i) (VR.ext xx.toMv S.noSeq hv) hk (VRs.ext xx.toMv S.noSeq hr)
    exact ⟨_, hd'', r1, r2⟩
  exact ⟨φ, m, _, ⟨rfl, q ep'⟩, S', x'⟩

theorem storedH_rel {k : List KA} {a : Addr} {p : PV} {v : Value} {es : List (List KA × PV)} {xs : List (List KA × Addr × Value)} (hv : VR φ h p v) (hka : VR φ h (.tup (k.map KA.pv)) (.ref a)) (hk : xs.map (·.1) = es.map (·.1))
    (h1 : VRs φ h (es.map fun e => .tup (e.1.map KA.pv)) (xs.map fun x => .ref x.2.1)) (h2 : VRs φ h (es.map (·.2)) (xs.map (·.2.2))) :
    (storedH xs k a v).map (·.1) = (kput es k p).map (·.1) ∧ VRs φ h ((kput es k p).map fun e => .tup (e.1.map KA.pv)) ((storedH xs k a v).map fun x => .ref x.2.1) ∧ VRs φ h ((kput es k p).map (·.2)) ((storedH xs k a v).map (·.2.2)) := by
  have hany : (atKey xs k).isSome = es.any fun e => decide (e.1 = k) := by
    rw [any_keys (k := k) (es := es) (kvs := xs) hk]
    unfold atKey
    rw [Option.isSome_map]
    exact find_any _ _
  unfold storedH kput
  rw [hany]
  split
  · have e1 : (xs.map (putAt k v)).map (·.1) = xs.map (·.1) := keys_map_putAt xs k v
    have e2 : (xs.map (putAt k v)).map (fun x => Value.ref x.2.1) = xs.map fun x => .ref x.2.1 := by
      rw [List.map_map]
      refine List.map_congr_left fun x _ => ?_
      show Value.ref (putAt k v x).2.1 = _
      unfold putAt; split <;> rfl
    have e3 : (es.map fun e => if e.1 = k then (e.1, p) else e).map (fun e => PV.tup (e.1.map KA.pv)) = es.map fun e => .tup (e.1.map KA.pv) := by
      rw [List.map_map]
      refine List.map_congr_left fun x _ => ?_
      show PV.tup ((if x.1 = k then (x.1, p) else x).1.map KA.pv) = _
      split <;> rfl
    refine ⟨by rw [e1, keys_put, hk], by rw [e2, e3]; exact h1, ?_⟩
    have hk' : (xs.map fun x => (x.1, x.2.2)).map (·.1) = es.map (·.1) := by rw [List.map_map]; exact hk
    have h2' : VRs φ h (es.map (·.2)) ((xs.map fun x => (x.1, x.2.2)).map (·.2)) := by rw [List.map_map]; exact h2
    have := vrs_put (k := k) hv hk' h2'
    have e4 : ((xs.map fun x => (x.1, x.2.2)).map fun e => if e.1 = k then (e.1, v) else e).map (·.2) = (xs.map (putAt k v)).map (·.2.2) := by
      rw [List.map_map, List.map_map, List.map_map]
      refine List.map_congr_left fun x _ => ?_
      show (if x.1 = k then (x.1, v) else (x.1, x.2.2)).2 = (putAt k v x).2.2
      unfold putAt
      split <;> rfl
    rw [← e4]; exact this
  · simp only [List.map_append]
    exact ⟨by rw [hk]; rfl, h1.append (VRs.cons hka VRs.nil), h2.append (VRs.cons hv VRs.nil)⟩

theorem ASet_tdict {k : Nat} {es : List (List KA × PV)} {ep : Nat} {i : List KA} {x : PV} {Q : List PO → Prop} (e : ps[k]? = some (.tdict es ep)) (hl : es.length ≤ 1000000) (q : ∀ ep', Q (ps.set k (.tdict (kput es i x) ep'))) :
    ASet C n (.obj k) (.tup (i.map KA.pv)) x m ps Q := by
  intro A φ s ov iv v R S ho hi hv
  obtain ⟨a, xs, rfl, ha, hm, hd, hk, h1, h2⟩ := S.tdict ho e
  obtain ⟨b, _, _, rfl, _⟩ := VR.tup_inv hi
  have hlen : xs.length = es.length := by simpa using congrArg List.length hk
  refine wpAny_setItem_heap (knd := tupK C.prog C.w) (by exact R.units1) hi.isKey hd.of (fun h' hd' hs => ?_) (by rw [hlen, sizeLine_eq]; omega)
  obtain ⟨ep', hd''⟩ := TAt.to hd'
  obtain ⟨S', x'⟩ := S.turn (po := .tdict (kput es i x) ep') (s.toks + (tupK C.prog C.w).draws i) ha hs (let ⟨o, _, e, _⟩ := hd''; ⟨o, e⟩) fun xx => by
    obtain ⟨r1, r2, r3⟩ := storedH_rel (k := i) (VR.ext xx.toMv S.noSeq hv) (VR.ext xx.toMv S.noSeq hi) hk (VRs.ext xx.toMv S.noSeq h1) (VRs.ext xx.toMv S.noSeq h2)
    exact ⟨_, hd'', r1, r2, r3⟩
  exact ⟨φ, m, _, ⟨rfl, q ep'⟩, S', x'⟩

theorem AO_inT {k : Nat} {es : List (List KA × PV)} {ep : Nat} {i : List KA} {Q : PV → List PO → Prop} (e : ps[k]? = some (.tdict es ep)) (q : Q (.bool (kget es i).isSome) ps) : AO2 C n (compareOp .In) (.tup (i.map KA.pv)) (.obj k) m ps Q := by
  intro A φ s u v R S hu hv
  obtain ⟨a, xs, rfl, ha, hm, hd, hk, h1, h2⟩ := S.tdict hv e
  obtain ⟨b, _, _, rfl, _⟩ := VR.tup_inv hu
  refine wpAny_in_heap (knd := tupK C.prog C.w) (by exact R.units1) hu.isKey hm hd.of ?_
  have : (atKey xs i).isSome = (kget es i).isSome := by
    unfold atKey kget
    rw [Option.isSome_map, Option.isSome_map]
    rw [find_any, find_any]
    exact (any_keys (k := i) (es := es) (kvs := xs) hk).symm
  rw [this]
  exact Post.now S _ vr_bool q
end Mine

namespace Mine
open PySem PySem.Calls PyProof.Rows PySem.W PySem.SeqAt PySem.Spec

variable {C : Ctx} {n : Nat} {φ φ' : List Addr} {m : List (Option PV)} {ps : List PO} {s : Shared} {h h' : Heap}

def dN (xs : List PV) (i : Nat) (_ : List PO) : Option PV := xs[i]?

theorem ns_of {I : Addr} {o : Obj} (e : h.get? I = some o) (hd : ∀ vs n, o.data ≠ .seq vs n) : NoSeq (fun b => b = I) h := fun b hb o' vs n' eo ed => by
  rw [hb, e] at eo; cases eo; exact hd vs n' ed

theorem iter_keys {target : Expr} {I a : Addr} {p : PV} {l : List (PV × PV)} {ep : Nat} (ht : ∀ it v, letOwnedTupleGo target it v = pure ()) :
    Iter C.toBase n target I (dN (l.map (·.1))) (fun ps => kvs ps p = some l ∧ epOf ps p = some ep) (fun φ i h => h.get? I = some (kvItO "dict_keyiterator" a i l.length ep) ∧ VR φ h p (.ref a))
      (fun φ i v h => h.get? I = some (kvItO "dict_keyiterator" a (i + 1) l.length ep) ∧ VR φ h p (.ref a)) where
  there := fun _ i h ⟨e, _⟩ => ⟨_, e, fun vs n e' => by cases e'⟩
  move := fun _ _ _ i h h' ⟨x, r⟩ mv ns k => ⟨k _ x, VR.ext mv ns r⟩
  thereM := fun _ i v h ⟨e, _⟩ => ⟨_, e, fun vs n e' => by cases e'⟩
  item := fun A φ ps s i q Q E R S hI ⟨hit, hr⟩ ⟨hk, he⟩ hn hQ => by
    obtain ⟨a', o, ents, ea, hm, ho, hc, hd, hsz, h1, h2⟩ := S.dict hr hk he
    cases ea
    obtain ⟨v, hv, hvr⟩ := h1.get (i := i) hn
    rw [List.getElem?_map] at hv
    cases hen : ents.toList[i]? with
    | none => rw [hen] at hv; cases hv
    | some en =>
      rw [hen] at hv; cases hv
      rw [← hsz] at hit
      refine keyit_item hit ho hd (by rw [← Array.getElem?_toList]; exact hen) fun h' hit' hs => ?_
      have mv : Mv (fun b => b = I) φ φ s.heap h' := Mv.iter hs.extBut
      have ns := ns_of hit (fun vs n e' => by cases e')
      exact hQ _ h' s.toks ⟨by rw [← hsz]; exact hit', VR.ext mv ns hr⟩ (VR.ext mv ns hvr) hs.extBut
  go := fun A s φ i v Q E hM hQ => wpAny_of_eq (ht _ _) (hQ s.heap hM (Heap.ExtBut.refl _ _))
  self := fun A s φ i Q E ⟨hit, _⟩ q => wpAny_pyIter_keyiter (i := i) (n := l.length) (ep := ep) (d := a) ⟨_, hit, rfl, rfl⟩ q
  stop := fun A φ ps s i Q E R S hI ⟨hit, hr⟩ ⟨hk, he⟩ hn hQ => by
    obtain ⟨a', o, ents, ea, hm, ho, hc, hd, hsz, h1, h2⟩ := S.dict hr hk he
    cases ea
    rw [← hsz] at hit
    refine keyit_end R.1 hit ho hd ?_ fun h' hx => hQ h' s.toks hx
    have hn' : (l.map (·.1))[i]? = none := hn
    rw [List.getElem?_eq_none_iff, List.length_map] at hn'
    exact Array.getElem?_eq_none (by omega)

theorem iter_vals {target : Expr} {I a : Addr} {p : PV} {l : List (PV × PV)} {ep : Nat} (ht : ∀ it v, letOwnedTupleGo target it v = pure ()) :
    Iter C.toBase n target I (dN (l.map (·.2))) (fun ps => kvs ps p = some l ∧ epOf ps p = some ep) (fun φ i h => h.get? I = some (kvItO "dict_valueiterator" a i l.length ep) ∧ VR φ h p (.ref a))
      (fun φ i v h => h.get? I = some (kvItO "dict_valueiterator" a (i + 1) l.length ep) ∧ VR φ h p (.ref a)) where
  there := fun _ i h ⟨e, _⟩ => ⟨_, e, fun vs n e' => by cases e'⟩
  move := fun _ _ _ i h h' ⟨x, r⟩ mv ns k => ⟨k _ x, VR.ext mv ns r⟩
  thereM := fun _ i v h ⟨e, _⟩ => ⟨_, e, fun vs n e' => by cases e'⟩
  item := fun A φ ps s i q Q E R S hI ⟨hit, hr⟩ ⟨hk, he⟩ hn hQ => by
    obtain ⟨a', o, ents, ea, hm, ho, hc, hd, hsz, h1, h2⟩ := S.dict hr hk he
    cases ea
    obtain ⟨v, hv, hvr⟩ := h2.get (i := i) hn
    rw [List.getElem?_map] at hv
    cases hen : ents.toList[i]? with
    | none => rw [hen] at hv; cases hv
    | some en =>
      rw [hen] at hv; cases hv
      rw [← hsz] at hit
      refine valit_item hit ho hd (by rw [← Array.getElem?_toList]; exact hen) fun h' hit' hs => ?_
      have mv : Mv (fun b => b = I) φ φ s.heap h' := Mv.iter hs.extBut
      have ns := ns_of hit (fun vs n e' => by cases e')
      exact hQ _ h' s.toks ⟨by rw [← hsz]; exact hit', VR.ext mv ns hr⟩ (VR.ext mv ns hvr) hs.extBut
  go := fun A s φ i v Q E hM hQ => wpAny_of_eq (ht _ _) (hQ s.heap hM (Heap.ExtBut.refl _ _))
  self := fun A s φ i Q E ⟨hit, _⟩ q => wpAny_pyIter_valiter (i := i) (n := l.length) (ep := ep) (d := a) ⟨_, hit, rfl, rfl⟩ q
  stop := fun A φ ps s i Q E R S hI ⟨hit, hr⟩ ⟨hk, he⟩ hn hQ => by
    obtain ⟨a', o, ents, ea, hm, ho, hc, hd, hsz, h1, h2⟩ := S.dict hr hk he
    cases ea
    rw [← hsz] at hit
    refine valit_end R.1 hit ho hd ?_ fun h' hx => hQ h' s.toks hx
    have hn' : (l.map (·.2))[i]? = none := hn
    rw [List.getElem?_eq_none_iff, List.length_map] at hn'
    exact Array.getElem?_eq_none (by omega)

theorem iter_itemsP {elts : List Expr} {kk : Nat} {pos : Pos} {I a : Addr} {p : PV} {l : List (PV × PV)} {ep : Nat}
    (hself : ∀ (A : Around) (s : Shared) (i : Nat) ok ov (Q : Value → Shared → Prop) (E : Value → Shared → Prop), s.heap.get? I = some (itmItO a .none i l.length ep ok ov) → Q (.ref I) s → wpAny (model C.prog C.w) A (pyIter (.ref I)) Q E s) :
    Iter C.toBase n (.Tuple elts kk pos) I (dN (l.map fun x => .tup [x.1, x.2])) (fun ps => kvs ps p = some l ∧ epOf ps p = some ep)
      (fun φ i h => (∃ ok ov, h.get? I = some (itmItO a .none i l.length ep ok ov)) ∧ VR φ h p (.ref a))
      (fun φ i v h => (∃ (b : Addr) (ok ov : Value), v = .ref b ∧ h.get? I = some (itmItO a (rawInt b) (i + 1) l.length ep ok ov)) ∧ VR φ h p (.ref a)) where
  there := fun _ i h ⟨⟨ok, ov, e⟩, _⟩ => ⟨_, e, fun vs n e' => by cases e'⟩
  move := fun _ _ _ i h h' ⟨⟨ok, ov, x⟩, r⟩ mv ns k => ⟨⟨ok, ov, k _ x⟩, VR.ext mv ns r⟩
  thereM := fun _ i v h ⟨⟨b, ok, ov, _, e⟩, _⟩ => ⟨_, e, fun vs n e' => by cases e'⟩
  item := fun A φ ps s i q Q E R S hI ⟨⟨ok, ov, hit⟩, hr⟩ ⟨hk, he⟩ hn hQ => by
    obtain ⟨a', o, ents, ea, hm, ho, hc, hd, hsz, h1, h2⟩ := S.dict hr hk he
    cases ea
    unfold dN at hn
    rw [List.getElem?_map] at hn
    cases hx : l[i]? with
    | none => rw [hx] at hn; cases hn
    | some x =>
      rw [hx] at hn; cases hn
      obtain ⟨v1, hv1, hr1⟩ := h1.get (i := i) (p := x.1) (by rw [List.getElem?_map, hx]; rfl)
      obtain ⟨v2, hv2, hr2⟩ := h2.get (i := i) (p := x.2) (by rw [List.getElem?_map, hx]; rfl)
      rw [List.getElem?_map] at hv1 hv2
      cases hen : ents.toList[i]? with
      | none => rw [hen] at hv1; cases hv1
      | some en =>
        rw [hen] at hv1 hv2; cases hv1; cases hv2
        rw [← hsz] at hit
        refine itemit_item hit ho hd (by rw [← Array.getElem?_toList]; exact hen) fun h' b ok' ov' hit' hb hbf hs => ?_
        have mv : Mv (fun b => b = I) φ φ s.heap h' := Mv.iter hs
        have ns := ns_of hit (fun vs n e' => by cases e')
        have hbφ : b ∉ φ := fun hm => by
          obtain ⟨j, hj⟩ := List.mem_iff_getElem?.mp hm
          have hlt : j < ps.length := by rw [S.len]; exact (List.getElem?_eq_some_iff.mp hj).1
          obtain ⟨o', ho'⟩ := (S.objs j _ ps[j] hj (List.getElem?_eq_getElem hlt)).there
          rw [hbf] at ho'; cases ho'
        exact hQ _ h' s.toks ⟨⟨b, ok', ov', rfl, by rw [← hsz]; exact hit'⟩, VR.ext mv ns hr⟩ (vr_tup hbφ hb (VRs.cons (VR.ext mv ns hr1) (VRs.cons (VR.ext mv ns hr2) VRs.nil))) hs
  go := fun A s φ i v Q E ⟨⟨b, ok, ov, hv, e⟩, r⟩ hQ => by
    subst hv
    refine wpAny_letOwnedTupleGo_items e fun h' hit' hs => ?_
    have mv : Mv (fun b => b = I) φ φ s.heap h' := Mv.iter hs.extBut
    have ns := ns_of e (fun vs n e' => by cases e')
    exact hQ h' ⟨⟨ok, ov, hit'⟩, VR.ext mv ns r⟩ hs.extBut
  self := fun A s φ i Q E ⟨⟨ok, ov, hit⟩, _⟩ q => hself A s i ok ov Q E hit q
  stop := fun A φ ps s i Q E R S hI ⟨⟨ok, ov, hit⟩, hr⟩ ⟨hk, he⟩ hn hQ => by
    obtain ⟨a', o, ents, ea, hm, ho, hc, hd, hsz, h1, h2⟩ := S.dict hr hk he
    cases ea
    rw [← hsz] at hit
    refine itemit_end R.1 hit ho hd ?_ fun h' hx => hQ h' s.toks hx
    have hn' : (l.map fun x => PV.tup [x.1, x.2])[i]? = none := hn
    rw [List.getElem?_eq_none_iff, List.length_map] at hn'
    exact Array.getElem?_eq_none (by omega)

theorem entry_itemiter : entryFor table "dict_itemiterator.__iter__" = some Builtin.«dict_keyiterator.__iter__» := 
  entryFor_alias (id' := "dict_keyiterator.__iter__") (by kernel_rfl) rfl (by decide +kernel) (by kernel_rfl)

theorem itemiter_self {I d : Addr} {i k ep : Nat} {ok ov : Value} {A : Around} {Q : Value → Shared → Prop} {E : Value → Shared → Prop} (hit : s.heap.get? I = some (itmItO d .none i k ep ok ov)) (q : Q (.ref I) s) :
    wpAny (model C.prog C.w) A (pyIter (.ref I)) Q E s := by
  have hT : s.TypeIs (.ref I) "dict_itemiterator" := ⟨_, hit, rfl⟩
  refine wpAny_pyIter_slot hT F.slot_dict_itemiterator_iter (wpAny_call_entry F.slot_dict_itemiterator_iter hT entry_itemiter ?_ (F.args_dict_itemiterator_iter_1 _))
  show wpAny _ _ (ret (.ref I)) _ _ s
  exact wpAny_pure ⟨_, rfl, "dict_itemiterator", _, hT, F.slot_dict_itemiterator_next.lookup, q⟩

/-! ## the sources -/
theorem AIt_keys {target iter : Expr} {K : (Nat → List PO → Option PV) → (List PO → Prop) → List PO → Prop}
    (h : AE C n iter m ps fun p ps₁ => ∃ l ep, kvs ps₁ p = some l ∧ epOf ps₁ p = some ep ∧ K (dN (l.map (·.1))) (fun ps => kvs ps p = some l ∧ epOf ps p = some ep) ps₁)
    (ht : ∀ it v, letOwnedTupleGo target it v = pure () := by intro _ _; rfl) : AIt C n target iter m ps K := by
  intro A φ s R S
  refine wpAny_mono (h A φ s R S) (fun v s₁ ⟨φ₁, p, ps₁, ⟨l, ep, hk, he, hK⟩, S₁, hv, x₁⟩ => ?_) noE
  obtain ⟨a, o, ents, rfl, hm, ho, hc, hd, hsz, h1, h2⟩ := S₁.g.dict hv hk he
  refine ⟨φ₁, ps₁, S₁, x₁, ?_⟩
  refine iter_dict hm ho hc.1 hd ?_
  obtain ⟨ap, hI, hf⟩ := apart_size S₁ (h₂ := s₁.heap) (fun _ _ e => e)
  refine ⟨_, _, _, _, _, rfl, iter_keys (a := a) (p := p) (l := l) (ep := ep) ht, ⟨?_, S₁.vr (Ext.push _) hv⟩, hK, S₁.push _ _, Ext.push _, hf, ap, hI⟩
  rw [← hsz]; exact Heap.get?_push_size _ rfl

theorem AIt_values {target o : Expr} {name : Str} {apos pos : Pos} {K : (Nat → List PO → Option PV) → (List PO → Prop) → List PO → Prop} (hname : name = "values")
    (hbase : attributeBase o name C.env (eval o C.env) = eval o C.env) (hline : (apos.endLine == pos.line) = true)
    (h : AE C n o m ps fun p ps₁ => ∃ l ep, kvs ps₁ p = some l ∧ epOf ps₁ p = some ep ∧ K (dN (l.map (·.2))) (fun ps => kvs ps p = some l ∧ epOf ps p = some ep) ps₁)
    (ht : ∀ it v, letOwnedTupleGo target it v = pure () := by intro _ _; rfl) : AIt C n target (.Call (.Attribute o name apos) [] [] pos) m ps K := by
  intro A φ s R S
  subst hname
  refine wpAny_Call_method0_late hbase hline (wpAny_mono (h A φ s R S) (fun v s₁ ⟨φ₁, p, ps₁, ⟨l, ep, hk, he, hK⟩, S₁, hv, x₁⟩ => ?_) noE)
  obtain ⟨a, od, ents, rfl, hm, ho, hc, hd, hsz, h1, h2⟩ := S₁.g.dict hv hk he
  refine ⟨"dict", "dict.values", F.plainAttrs_dict, F.slot_dict_values, F.type_dict_values, ⟨_, ho, hc.1⟩, fun b e => by cases e; exact ⟨_, ho, hc.2.1⟩, ?_⟩
  refine callWith_builtin (args := []) rfl (PySem.evalArgs_none ?_)
  show wpAny _ _ (call (.builtin "dict.values") [.ref a]) _ _ _
  refine call_values hm ho hc.1 ?_
  refine ⟨φ₁, ps₁, S₁.push _ _, x₁.trans (Ext.push _), ?_⟩
  have ho' : (s₁.heap.push { cls := .type "dict_values", data := .fields #[.ref a] }).get? a = some od := Heap.get?_push_of_some _ ho
  refine iter_values (Heap.get?_push_size _ rfl) ho' hd ?_
  obtain ⟨ap, hI, hf⟩ := apart_size S₁ (h₂ := s₁.heap.push { cls := .type "dict_values", data := .fields #[.ref a] }) (fun _ _ e => Heap.get?_push_of_some _ e)
  refine ⟨_, _, _, _, _, rfl, iter_vals (a := a) (p := p) (l := l) (ep := ep) ht, ⟨?_, (S₁.push _ s₁.toks).vr (Ext.push _) (S₁.vr (Ext.push _) hv)⟩, hK, (S₁.push _ s₁.toks).push _ s₁.toks, Ext.push _, get_size _, ap, hI⟩
  rw [← hsz]; exact Heap.get?_push_size _ rfl

theorem AIt_items {elts : List Expr} {kk : Nat} {tpos : Pos} {o : Expr} {name : Str} {apos pos : Pos} {K : (Nat → List PO → Option PV) → (List PO → Prop) → List PO → Prop} (hname : name = "items")
    (hbase : attributeBase o name C.env (eval o C.env) = eval o C.env) (hline : (apos.endLine == pos.line) = true)
    (h : AE C n o m ps fun p ps₁ => ∃ l ep, kvs ps₁ p = some l ∧ epOf ps₁ p = some ep ∧ K (dN (l.map fun x => .tup [x.1, x.2])) (fun ps => kvs ps p = some l ∧ epOf ps p = some ep) ps₁) :
    AIt C n (.Tuple elts kk tpos) (.Call (.Attribute o name apos) [] [] pos) m ps K := by
  intro A φ s R S
  subst hname
  refine wpAny_Call_method0_late hbase hline (wpAny_mono (h A φ s R S) (fun v s₁ ⟨φ₁, p, ps₁, ⟨l, ep, hk, he, hK⟩, S₁, hv, x₁⟩ => ?_) noE)
  obtain ⟨a, od, ents, rfl, hm, ho, hc, hd, hsz, h1, h2⟩ := S₁.g.dict hv hk he
  refine ⟨"dict", "dict.items", F.plainAttrs_dict, F.slot_dict_items, F.type_dict_items, ⟨_, ho, hc.1⟩, fun b e => by cases e; exact ⟨_, ho, hc.2.1⟩, ?_⟩
  refine callWith_builtin (args := []) rfl (PySem.evalArgs_none ?_)
  show wpAny _ _ (call (.builtin "dict.items") [.ref a]) _ _ _
  refine call_items hm ho hc.1 ?_
  refine ⟨φ₁, ps₁, S₁.push _ _, x₁.trans (Ext.push _), ?_⟩
  have ho' : (s₁.heap.push { cls := .type "dict_items", data := .fields #[.ref a] }).get? a = some od := Heap.get?_push_of_some _ ho
  refine iter_items (Heap.get?_push_size _ rfl) ho' hd ?_
  obtain ⟨ap, hI, hf⟩ := apart_size S₁ (h₂ := s₁.heap.push { cls := .type "dict_items", data := .fields #[.ref a] }) (fun _ _ e => Heap.get?_push_of_some _ e)
  refine ⟨_, _, _, _, _, rfl, iter_itemsP (a := a) (p := p) (l := l) (ep := ep) (fun A s i ok ov Q E e q => itemiter_self (C := C) e q), ⟨⟨.none, .none, ?_⟩, (S₁.push _ s₁.toks).vr (Ext.push _) (S₁.vr (Ext.push _) hv)⟩, hK, (S₁.push _ s₁.toks).push _ s₁.toks, Ext.push _, get_size _, ap, hI⟩
  rw [← hsz]; exact Heap.get?_push_size _ rfl
end Mine

namespace Mine
open PySem PySem.Calls PyProof.Rows PySem.W PySem.SeqAt PySem.Spec

variable {C : Ctx} {n : Nat} {φ φ' : List Addr} {m : List (Option PV)} {ps : List PO} {s : Shared} {h h' : Heap}

def typeName (ps : List PO) : PV → Option String
  | .lst _ => some "list"
  | .obj k => match ps[k]? with
    | some (.list _) => some "list"
    | some (.idict _ _) => some "dict"
    | some (.tdict _ _) => some "dict"
    | none => none
  | _ => none

theorem St.typed (S : St C φ m ps s) {p : PV} {v : Value} {T : String} (r : VR φ s.heap p v) (e : typeName ps p = some T) : ∃ a o, v = .ref a ∧ s.heap.get? a = some o ∧ o.cls = .type T ∧ o.dict = none := by
  have lst : ∀ l, contents ps p = some l → ∃ a o, v = .ref a ∧ s.heap.get? a = some o ∧ o.cls = .type "list" ∧ o.dict = none := fun l e => by
    obtain ⟨a, xs, rfl, ⟨k, ho⟩, hr⟩ := S.list r e
    exact ⟨a, _, rfl, ho, rfl, rfl⟩
  cases p with
  | lst l => cases e; exact lst l rfl
  | obj k =>
    unfold typeName at e
    cases hp : ps[k]? with
    | none => simp [hp] at e
    | some po =>
      cases po with
      | list l => simp [hp] at e; subst e; exact lst l (by simp [contents, hp])
      | idict es ep => 
        simp [hp] at e; subst e
        obtain ⟨a, o, ents, rfl, hm, ho, hc, hd, _⟩ := S.g.dict (p := .obj k) r (l := es.map fun e => (.int e.1, e.2)) (ep := ep) (by simp [kvs, hp]) (by simp [epOf, hp])
        exact ⟨a, o, rfl, ho, hc.1, hc.2.1⟩
      | tdict es ep => 
        simp [hp] at e; subst e
        obtain ⟨a, o, ents, rfl, hm, ho, hc, hd, _⟩ := S.g.dict (p := .obj k) r (l := es.map fun e => (.tup (e.1.map KA.pv), e.2)) (ep := ep) (by simp [kvs, hp]) (by simp [epOf, hp])
        exact ⟨a, o, rfl, ho, hc.1, hc.2.1⟩
  | _ => cases e

theorem AE_meth {o e : Expr} {es : List Expr} {name : Str} {apos pos : Pos} {T id : String} {Q : PV → List PO → Prop} (pa : PlainAttrs T) (slot : PySem.Slot T name id) (hty : typeOf (.builtin id) = pure (.type "method_descriptor"))
    (h : AE C n o m ps fun p ps₁ => typeName ps₁ p = some T ∧ AL C n (e :: es) m ps₁ fun l ps₂ => BC C n (.builtin id) (p :: l) m ps₂ Q)
    (hbase : attributeBase o name C.env (eval o C.env) = eval o C.env) (hline : (apos.endLine == pos.line) = true)
    (hfew : ((backTo pos (starEach (e :: es) C.env)).all (fun x => !x.1) && (backToKw pos (keywordEach [] C.env)).all (fun x => x.1.isSome)
      && decide ((e :: es).length + ([] : List Keyword).length + (if ([] : List Keyword).isEmpty then 0 else 1) < 30)) = true) (he : starEach (e :: es) C.env = (false, eval e C.env) :: starEach es C.env := by rfl) :
    AE C n (.Call (.Attribute o name apos) (e :: es) [] pos) m ps Q := by
  intro A φ s R S
  refine wpAny_Call_method_late hbase hfew hline rfl (wpAny_mono (h A φ s R S) (fun v s₁ ⟨φ₁, p, ps₁, ⟨ht, hq⟩, S₁, hv, x₁⟩ => ?_) noE)
  obtain ⟨a, ob, rfl, ho, hc, hd⟩ := S₁.typed hv ht
  refine ⟨T, id, pa, slot, hty, ⟨ob, ho, hc⟩, fun b e => by cases e; exact ⟨_, ho, hd⟩, ?_⟩
  have hany : (backTo pos (starEach (e :: es) C.env)).any (·.1) = false := by
    simp only [Bool.and_eq_true] at hfew
    have := hfew.1.1
    rw [List.all_eq_true] at this
    rw [List.any_eq_false]
    intro x hx; have := this x hx; simpa using this
  refine callWith_builtin hany ?_
  have ha := hq A φ₁ s₁ pos R S₁
  rw [he] at ha ⊢
  refine evalArgs_plain (wpAny_mono ha (fun vs s₂ ⟨φ₂, l, ps₂, q, S₂, hl, x₂⟩ => ?_) noE)
  show wpAny _ _ (call (.builtin id) ([.ref a] ++ vs) []) _ _ s₂
  exact wpAny_mono (q A φ₂ s₂ _ R S₂ (VRs.cons (S₁.vr x₂ hv) hl)) (fun v s₃ r => (r.ext x₂).ext x₁) noE

theorem VRs.take : ∀ {l : List PV} {vs : List Value} (i : Nat), VRs φ h l vs → VRs φ h (l.take i) (vs.take i) := by
  intro l vs i r
  induction i generalizing l vs with
  | zero => exact VRs.nil
  | succ i ih =>
    cases l with
    | nil => rw [VRs.nil_inv r]; exact VRs.nil
    | cons p l => obtain ⟨v, us, rfl, hv, hr⟩ := VRs.cons_inv r; exact VRs.cons hv (ih hr)
theorem VRs.drop : ∀ {l : List PV} {vs : List Value} (i : Nat), VRs φ h l vs → VRs φ h (l.drop i) (vs.drop i) := by
  intro l vs i r
  induction i generalizing l vs with
  | zero => exact r
  | succ i ih =>
    cases l with
    | nil => rw [VRs.nil_inv r]; exact VRs.nil
    | cons p l => obtain ⟨v, us, rfl, hv, hr⟩ := VRs.cons_inv r; exact ih hr
theorem VRs.set : ∀ {l : List PV} {vs : List Value} {p : PV} {v : Value} (i : Nat), VRs φ h l vs → VR φ h p v → VRs φ h (l.set i p) (vs.set i v) := by
  intro l vs p v i r hp
  induction l generalizing vs i with
  | nil => rw [VRs.nil_inv r]; exact VRs.nil
  | cons q l ih =>
    obtain ⟨v', us, rfl, hv, hr⟩ := VRs.cons_inv r
    cases i with
    | zero => exact VRs.cons hp hr
    | succ i => exact VRs.cons hv (ih i hr)

theorem BC_append {k : Nat} {l : List PV} {x : PV} {Q : PV → List PO → Prop} (e : ps[k]? = some (.list l)) (hl : l.length ≤ 1000000) (q : Q .none (ps.set k (.list (l ++ [x])))) :
    BC C n (.builtin "list.append") [.obj k, x] m ps Q := by
  intro A φ s vs R S hv
  obtain ⟨v, us, rfl, hv1, hr⟩ := VRs.cons_inv hv
  obtain ⟨u, us', rfl, hu, hr⟩ := VRs.cons_inv hr
  rw [VRs.nil_inv hr]
  obtain ⟨a, xs, rfl, ho, hx⟩ := S.list hv1 (l := l) (by simp [contents, e])
  obtain ⟨a', ha, e'⟩ := VR.obj_inv hv1
  cases e'
  have hsz : xs.size = l.length := by rw [← Array.length_toList]; exact hx.length
  refine wpAny_list_append_plain ho (fun h' hp hs => ?_) (by rw [hsz, sizeLine_eq]; omega)
  obtain ⟨S', x'⟩ := S.turn (po := .list (l ++ [x])) s.toks ha hs (let ⟨_, e⟩ := hp; ⟨_, e⟩) fun xx => ⟨_, hp, by
    rw [Array.toList_push]
    exact (VRs.ext xx.toMv S.noSeq hx).append (VRs.cons (VR.ext xx.toMv S.noSeq hu) VRs.nil)⟩
  exact ⟨φ, .none, _, q, S', vr_none, x'⟩

theorem mapSeq_insert (x : Int) (i : Nat) (u : Value) (xs : Array Value) (kk : Nat) (h0 : ¬ x < 0) (hx : x.toNat = i) (hi : i ≤ xs.size) :
    ∃ kk', Obj.mapSeq (fun xs => have k := if x < 0 then (x + (xs.size : Int)).toNat else min x.toNat xs.size; (xs.extract 0 k).push u ++ xs.extract k) { cls := .type "list", data := .seq xs kk } =
      { cls := .type "list", data := .seq (xs.toList.take i ++ u :: xs.toList.drop i).toArray kk' } := by
  have hval : (xs.extract 0 i).push u ++ xs.extract i = (xs.toList.take i ++ u :: xs.toList.drop i).toArray := by
    apply Array.toList_inj.mp
    simp
    exact List.take_of_length_le (by simp)
  simp only [Obj.mapSeq, if_neg h0, hx, Nat.min_eq_left hi]
  rw [hval]
  exact ⟨_, rfl⟩

theorem call_insert {A : Around} {E : Value → Shared → Prop} {Q : Value → Shared → Prop} {a : Addr} {xs : Array Value} {x : Int} {t : Tok} {u : Value} {i : Nat} (ho : s.heap.PlainList a xs) (h0 : ¬ x < 0) (hx : x.toNat = i) (hi : i ≤ xs.size) (hz : xs.size ≤ 1000000)
    (hQ : ∀ h', h'.PlainList a (xs.toList.take i ++ u :: xs.toList.drop i).toArray → Heap.SameBut a s.heap h' → Q .none { s with heap := h' }) : wpAny (model C.prog C.w) A (call (.builtin "list.insert") [.ref a, .int x t, u]) Q E s := by
  obtain ⟨kk, ho⟩ := ho
  have hfit : Builtin.List.listFitsIndex x = true := by
    unfold Builtin.List.listFitsIndex
    simp
    omega
  have hz' : xs.size ≤ sizeLine := by rw [sizeLine_eq]; omega
  have hn : ¬(!Builtin.List.listFitsIndex x) = true := by simp [hfit]
  have hT : s.TypeIs (.ref a) "list" := ⟨_, ho, rfl⟩
  refine call_meets F.slot_list_insert hT F.entry_list_insert (F.args_list_insert_3 _ _ _) (PySem.AutoSeq1.list_insert_list_int_val_1 a xs kk x t u hn hz') ⟨ho, hQ _ ?_ (Heap.SameBut.update ..)⟩
  obtain ⟨kk', hm⟩ := mapSeq_insert x i u xs kk h0 hx hi
  exact ⟨kk', (Heap.get?_update_self _ ho (by rw [hm]; rfl)).trans (by rw [hm])⟩

theorem BC_insert {k : Nat} {l : List PV} {x : Int} {i : Nat} {p : PV} {Q : PV → List PO → Prop} (e : ps[k]? = some (.list l)) (hl : l.length ≤ 1000000) (h0 : ¬ x < 0) (hx : x.toNat = i) (hi : i ≤ l.length) (q : Q .none (ps.set k (.list (l.take i ++ p :: l.drop i)))) :
    BC C n (.builtin "list.insert") [.obj k, .int x, p] m ps Q := by
  intro A φ s vs R S hv
  obtain ⟨v, us, rfl, hv1, hr⟩ := VRs.cons_inv hv
  obtain ⟨vi, us1, rfl, hi', hr⟩ := VRs.cons_inv hr
  obtain ⟨u, us', rfl, hu, hr⟩ := VRs.cons_inv hr
  rw [VRs.nil_inv hr]
  obtain ⟨t, rfl⟩ := VR.int_inv hi'
  obtain ⟨a, xs, rfl, ho, hx'⟩ := S.list hv1 (l := l) (by simp [contents, e])
  obtain ⟨a', ha, e'⟩ := VR.obj_inv hv1
  cases e'
  have hsz : xs.size = l.length := by rw [← Array.length_toList]; exact hx'.length
  refine call_insert ho h0 hx (by omega) (by omega) fun h' hp hs => ?_
  obtain ⟨S', x'⟩ := S.turn (po := .list (l.take i ++ p :: l.drop i)) s.toks ha hs (let ⟨_, e⟩ := hp; ⟨_, e⟩) fun xx => ⟨_, hp, by
    have hx'' := VRs.ext xx.toMv S.noSeq hx'
    exact (hx''.take i).append (VRs.cons (VR.ext xx.toMv S.noSeq hu) (hx''.drop i))⟩
  exact ⟨φ, .none, _, q, S', vr_none, x'⟩

theorem setItem_plain {A : Around} {E : Value → Shared → Prop} {l : Addr} {items : Array Value} {k : Int} {t : Tok} {v : Value} {Q : Unit → Shared → Prop} (hl : s.heap.PlainList l items)
    (h0 : 0 ≤ k) (hfit : k < 2 ^ 63) (hn : k < items.size)
    (hQ : ∀ h', h'.PlainList l (items.setIfInBounds k.toNat v) → Heap.SameBut l s.heap h' → Q () { s with heap := h' }) :
    wpAny (model C.prog C.w) A (setItem (.ref l) (.int k t) v) Q E s := by
  have hil := hl.isList
  obtain ⟨nn, ho⟩ := hl
  unfold setItem
  try with_reducible refine wpAny_holding ?_
  first | refine wpAny_bind (wpAny_pure ?_) | skip
  refine wpAny_bind (wpAny_sequenceKey hil.typeIs (by decide) ?_)
  refine wpAny_bind (wpAny_callSpecial?_slot (name := Str.ofString "__setitem__") hil.typeIs slot_list_setitem
    (wpAny_call_entry slot_list_setitem hil.typeIs entry_list_setitem ?_ (args_list_setitem _ _ _)))
  show wpAny _ _ (Builtin.List.listSubscript? (.int k t) >>= _) _ _ s
  refine wpAny_bind (wpAny_listSubscript_int (fitsIndex_of h0 hfit) ?_)
  clear hfit
  obtain ⟨j, rfl⟩ := Int.eq_ofNat_of_zero_le h0
  have hj : j < items.size := by omega
  have hx' : items[j]? = some items[j] := Array.getElem?_eq_getElem hj
  show wpAny _ _ ((seqItemAt l j >>= fun r => pure (r.map (j, ·))) >>= _) _ _ s
  refine wpAny_bind (wpAny_bind (wpAny_seqItemAt ho rfl (wpAny_pure ?_)))
  rw [hx']
  show wpAny _ _ (setSeqItemAt l j v >>= _) _ _ s
  have hm : ∃ n', Obj.mapSeq (·.setIfInBounds j v) { cls := .type "list", data := .seq items nn } = { cls := .type "list", data := .seq (items.setIfInBounds j v) n' } := by
    simp only [Obj.mapSeq]; exact ⟨_, rfl⟩
  obtain ⟨n', hm⟩ := hm
  have hfin : (s.heap.update l (Obj.mapSeq (·.setIfInBounds j v))).PlainList l (items.setIfInBounds j v) :=
    ⟨n', (Heap.get?_update_self _ ho (by rw [hm]; rfl)).trans (by rw [hm])⟩
  refine wpAny_bind (wpAny_setSeqItemAt ho rfl ?_)
  first
    | exact wpAny_bind (wpAny_pure (wpAny_pure ⟨.none, rfl, wpAny_pure (hQ _ hfin (Heap.SameBut.update ..))⟩))
    | exact wpAny_pure ⟨.none, rfl, wpAny_pure (hQ _ hfin (Heap.SameBut.update ..))⟩

theorem ASet_list {k : Nat} {l : List PV} {i : Int} {x : PV} {Q : List PO → Prop} (e : ps[k]? = some (.list l)) (hl : l.length ≤ 1000000) (h0 : 0 ≤ i) (hi : i < l.length) (q : Q (ps.set k (.list (l.set i.toNat x)))) :
    ASet C n (.obj k) (.int i) x m ps Q := by
  intro A φ s ov iv v R S ho hi' hv
  obtain ⟨a, xs, rfl, hp, hx⟩ := S.list ho (l := l) (by simp [contents, e])
  obtain ⟨a', ha, e'⟩ := VR.obj_inv ho
  cases e'
  obtain ⟨t, rfl⟩ := VR.int_inv hi'
  have hsz : xs.size = l.length := by rw [← Array.length_toList]; exact hx.length
  refine setItem_plain hp h0 (by omega) (by omega) fun h' hp' hs => ?_
  obtain ⟨S', x'⟩ := S.turn (po := .list (l.set i.toNat x)) s.toks ha hs (let ⟨_, e⟩ := hp'; ⟨_, e⟩) fun xx => ⟨_, hp', by
    rw [Array.toList_setIfInBounds]
    exact (VRs.ext xx.toMv S.noSeq hx).set _ (VR.ext xx.toMv S.noSeq hv)⟩
  exact ⟨φ, m, _, ⟨rfl, q⟩, S', x'⟩

theorem AO_addL {p p' : PV} {l l' : List PV} {Q : PV → List PO → Prop} (e1 : contents ps p = some l) (e2 : contents ps p' = some l') (hl : l.length + l'.length ≤ 1000000) (q : Q (.lst (l ++ l')) ps) : AO2 C n (binaryOp .Add) p p' m ps Q := by
  intro A φ s u v R S hu hv
  obtain ⟨a, xs, rfl, ⟨k1, h1⟩, hx⟩ := S.list hu e1
  obtain ⟨b, ys, rfl, ⟨k2, h2⟩, hy⟩ := S.list hv e2
  have hsz : xs.size = l.length := by rw [← Array.length_toList]; exact hx.length
  have hsz2 : ys.size = l'.length := by rw [← Array.length_toList]; exact hy.length
  refine concat_meets ⟨_, h1, rfl⟩ ⟨_, h2, rfl⟩ noFill_list_add seq_list_add PySem.F.slot_list_add PySem.F.entry_list_add (PySem.F.args_list_add_2 _ _) (list_addW a b xs ys k1 k2 none none #[] #[] (by rw [hsz, hsz2, sizeLine_eq]; omega)) ⟨h1, h2, ?_⟩
  refine ⟨φ, .lst (l ++ l'), ps, q, S.push _ _, ?_, Ext.push _⟩
  refine vr_lst S.fresh_φ (isList_new _ _) ?_
  rw [Array.toList_append]
  exact S.vrs (Ext.push _) (hx.append hy)
end Mine

namespace Mine
open PySem PySem.Calls PyProof.Rows PySem.W PySem.SeqAt PySem.Spec

variable {C : Ctx} {n : Nat} {φ φ' : List Addr} {m : List (Option PV)} {ps : List PO} {s : Shared} {h h' : Heap}

/-! ## sum and max of ints -/
theorem vrs_int_get {ns : List Int} {vs : List Value} (r : VRs φ h (ns.map PV.int) vs) {i : Nat} {v : Value} (hv : vs[i]? = some v) : ∃ t, v = .int (ns.getD i 0) t := by
  have hl := r.length
  rw [List.length_map] at hl
  have hi : i < ns.length := by have := (List.getElem?_eq_some_iff.mp hv).1; omega
  obtain ⟨w, hw, hr⟩ := r.get (i := i) (p := .int ns[i]) (by simp [hi])
  rw [hv] at hw; cases hw
  obtain ⟨t, rfl⟩ := VR.int_inv hr
  exact ⟨t, by simp [List.getD_eq_getElem?_getD, hi]⟩

theorem preSum_take (ns : List Int) : ∀ k, k ≤ ns.length → preSum (fun i => ns.getD i 0) k = (ns.take k).sum
  | 0, _ => by simp [preSum]
  | k + 1, hk => by
    rw [preSum, preSum_take ns k (by omega), List.take_succ, List.sum_append, List.getD_eq_getElem?_getD]
    have hk' : k < ns.length := hk
    simp [List.getElem?_eq_getElem hk']
theorem sum_bound : ∀ (ns : List Int), (∀ x ∈ ns, 0 ≤ x ∧ x ≤ 1000) → 0 ≤ ns.sum ∧ ns.sum ≤ 1000 * ns.length
  | [], _ => by simp
  | x :: ns, hx => by
    obtain ⟨a, b⟩ := sum_bound ns fun y hy => hx y (.tail _ hy)
    have := hx x (.head _)
    simp only [List.sum_cons, List.length_cons]; omega

theorem BC_sum {p : PV} {ns : List Int} {Q : PV → List PO → Prop} (e : contents ps p = some (ns.map .int)) (hb : ∀ x ∈ ns, 0 ≤ x ∧ x ≤ 1000) (hl : ns.length ≤ 1000) (q : Q (.int ns.sum) ps) : BC C n (.builtin "sum") [p] m ps Q := by
  intro A φ s vs R S hv
  obtain ⟨v, us, rfl, hv, hr⟩ := VRs.cons_inv hv
  rw [VRs.nil_inv hr]
  obtain ⟨a, xs, rfl, ho, hr⟩ := S.list hv e
  have hsz : xs.size = ns.length := by rw [← Array.length_toList]; simpa using hr.length
  have hne : a ≠ s.heap.objs.size := by obtain ⟨_, ho⟩ := ho; exact Nat.ne_of_lt (Heap.lt_size ho)
  refine call_sum_walk (wpAny_pyIter_list ho.isList ?_)
  refine ⟨s.heap.objs.size, [s.heap.objs.size, a], [s.heap.objs.size], xs.size, _, _, fun i => ns.getD i 0, rfl, Walks.list (by exact R.1) _ a hne xs, ⟨⟨_, Heap.get?_push_size _ rfl, rfl, rfl⟩, ho.isList.push _⟩, ?_, ?_, ?_, ?_⟩
  · intro b hb
    rw [Heap.size_push]
    rcases List.mem_cons.mp hb with rfl | hb
    · exact Nat.lt_succ_self _
    · rw [List.mem_singleton] at hb; subst hb; obtain ⟨_, ho⟩ := ho; exact Nat.lt_succ_of_lt (Heap.lt_size ho)
  · intro i v hiv
    exact vrs_int_get hr (by rw [Array.getElem?_toList]; exact hiv)
  · intro j hj
    have hjn : j < ns.length := by omega
    have h1 := hb ns[j] (List.getElem_mem hjn)
    have hg : ns.getD j 0 = ns[j] := by simp [List.getD_eq_getElem?_getD, hjn]
    have h2 := sum_bound (ns.take (j + 1)) fun x hx => hb x (List.mem_of_mem_take hx)
    rw [List.length_take] at h2
    rw [preSum_take ns (j + 1) (by omega)]
    show InLong (ns.getD j 0) ∧ _
    rw [hg]
    unfold InLong
    refine ⟨⟨by omega, by omega⟩, by omega, by omega⟩
  · intro h' tk t' hk
    rw [hsz, preSum_take ns ns.length (Nat.le_refl _), List.take_length]
    have hk' : ∀ b o, s.heap.get? b = some o → h'.get? b = some o := fun b o eb => hk b o (fun hm => by rw [List.mem_singleton] at hm; exact absurd (Heap.lt_size eb) (by rw [hm]; exact Nat.lt_irrefl _)) (Heap.get?_push_of_some _ eb)
    exact ⟨φ, .int ns.sum, ps, q, S.keep _ hk', vr_int, Ext.ofKeep hk'⟩

theorem argBest_le (bt : Nat → Nat → Bool) : ∀ k, argBest bt k ≤ k
  | 0 => Nat.le_refl _
  | k + 1 => by
    unfold argBest
    by_cases hb : bt (k + 1) (argBest bt k) = true
    · rw [if_pos hb]; exact Nat.le_refl _
    · rw [if_neg hb]; exact Nat.le_succ_of_le (argBest_le bt k)
theorem argBest_max (f : Nat → Int) : ∀ k i, i ≤ k → f i ≤ f (argBest (fun i j => decide (f i > f j)) k)
  | 0, i, hi => by rw [Nat.le_zero.mp hi]; exact Int.le_refl _
  | k + 1, i, hi => by
    unfold argBest
    split
    · rename_i h
      rcases Nat.lt_or_eq_of_le hi with h1 | h1
      · have := argBest_max f k i (by omega); have h' := of_decide_eq_true h; omega
      · rw [h1]; exact Int.le_refl _
    · rename_i h
      rcases Nat.lt_or_eq_of_le hi with h1 | h1
      · exact argBest_max f k i (by omega)
      · rw [h1]; have h' : ¬ _ := fun x => h (decide_eq_true x); omega

theorem BC_max {p : PV} {ns : List Int} {x : Int} {Q : PV → List PO → Prop} (e : contents ps p = some (ns.map .int)) (h1 : x ∈ ns) (h2 : ∀ y ∈ ns, y ≤ x) (q : Q (.int x) ps) : BC C n (.builtin "max") [p] m ps Q := by
  intro A φ s vs R S hv
  obtain ⟨v, us, rfl, hv, hr⟩ := VRs.cons_inv hv
  rw [VRs.nil_inv hr]
  obtain ⟨a, xs, rfl, ho, hr⟩ := S.list hv e
  have hsz : xs.size = ns.length := by rw [← Array.length_toList]; simpa using hr.length
  have hpos : 0 < ns.length := List.length_pos_of_mem h1
  have hne : a ≠ s.heap.objs.size := by obtain ⟨_, ho⟩ := ho; exact Nat.ne_of_lt (Heap.lt_size ho)
  refine call_max_walk (wpAny_pyIter_list ho.isList ?_)
  refine ⟨s.heap.objs.size, [s.heap.objs.size, a], [s.heap.objs.size], xs.size, _, _, _, rfl, Walks.list (by exact R.1) _ a hne xs, ⟨⟨_, Heap.get?_push_size _ rfl, rfl, rfl⟩, ho.isList.push _⟩, ?_, by omega, CmpOf.ints_gt (fun i => ns.getD i 0) ?_, ?_⟩
  · intro b hb
    rw [Heap.size_push]
    rcases List.mem_cons.mp hb with rfl | hb
    · exact Nat.lt_succ_self _
    · rw [List.mem_singleton] at hb; subst hb; obtain ⟨_, ho⟩ := ho; exact Nat.lt_succ_of_lt (Heap.lt_size ho)
  · intro i v hiv
    exact vrs_int_get hr (by rw [Array.getElem?_toList]; exact hiv)
  · intro v h' tk hP hk
    have hk' : ∀ b o, s.heap.get? b = some o → h'.get? b = some o := fun b o eb => hk b o (fun hm => by rw [List.mem_singleton] at hm; exact absurd (Heap.lt_size eb) (by rw [hm]; exact Nat.lt_irrefl _)) (Heap.get?_push_of_some _ eb)
    obtain ⟨t, rfl⟩ := vrs_int_get hr (i := argBest (fun i j => decide (ns.getD i 0 > ns.getD j 0)) (xs.size - 1)) (by rw [Array.getElem?_toList]; exact hP)
    have hb1 := argBest_le (fun i j => decide (ns.getD i 0 > ns.getD j 0)) (xs.size - 1)
    have hb2 := argBest_max (fun i => ns.getD i 0) (xs.size - 1)
    generalize argBest (fun i j => decide (ns.getD i 0 > ns.getD j 0)) (xs.size - 1) = b at hb1 hb2
    have hbn : b < ns.length := by omega
    have hgb : ns.getD b 0 = ns[b] := by simp [List.getD_eq_getElem?_getD, hbn]
    obtain ⟨i, hi, hix⟩ := List.getElem_of_mem h1
    have h3 := hb2 i (by omega)
    have hgi : ns.getD i 0 = x := by simp [List.getD_eq_getElem?_getD, hi, hix]
    rw [hgi, hgb] at h3
    have h4 := h2 ns[b] (List.getElem_mem hbn)
    have h5 : ns.getD b 0 = x := by rw [hgb]; omega
    rw [h5]
    exact ⟨φ, .int x, ps, q, S.keep _ hk', vr_int, Ext.ofKeep hk'⟩

/-! ## slices -/
theorem St.slice (S : St C φ m ps s) {a : Addr} {xs : Array Value} {l : List PV} {vl vu : Value} {lo hi : Option Int} {l' : List PV} {A : Around} {Q : PV → List PO → Prop} (ho : s.heap.PlainList a xs) (hr : VRs φ s.heap l xs.toList)
    (pl : IsPart vl lo) (pu : IsPart vu hi) (hl : l.length ≤ 1000000) (hx : ∀ hh, VRs φ hh l xs.toList → VRs φ hh l' (slicePick xs lo hi none).toList) (q : Q (.lst l') ps) :
    wpAny (model C.prog C.w) A (getItem (.ref a) (.ref s.heap.objs.size)) (Post C φ m s.heap Q) NoE { s with heap := s.heap.push { cls := .type "slice", data := .fields #[vl, vu, .none] } } := by
  have hsz : xs.size = l.length := by rw [← Array.length_toList]; exact hr.length
  refine wpAny_getItem_list_slice (ho.isList.push _) (Heap.IsSliceOf.new ..) pl pu .none (by simp) ?_ (by rw [hsz, sizeLine_eq]; omega)
  have x1 : Ext C.W φ φ s.heap ((s.heap.push { cls := .type "slice", data := .fields #[vl, vu, .none] }).push { cls := .type "list", data := .seq (slicePick xs lo hi none) }) := (Ext.push _).trans (Ext.push _)
  refine ⟨φ, .lst l', ps, q, (S.push _ s.toks).push _ _, ?_, x1⟩
  exact vr_lst (S.push _ s.toks).fresh_φ (isList_new _ _) (hx _ (S.vrs x1 hr))

theorem AE_slice_to {base e : Expr} {pp pos : Pos} {Q : PV → List PO → Prop}
    (h : AE C n base m ps fun p ps₁ => AE C n e m ps₁ fun q ps₂ => ∃ l k, contents ps₂ p = some l ∧ l.length ≤ 1000000 ∧ q = .int k ∧ 0 ≤ k ∧ Q (.lst (l.take k.toNat)) ps₂)
    (ht : ∀ o r, letTemporaryGo base o r = pure () := by intro _ _; rfl) : AE C n (.Subscript base (.Slice none (some e) none pp) pos) m ps Q := by
  intro A φ s R S
  refine wpAny_Subscript_Slice list_getitem_lookup (wpAny_mono (h A φ s R S) (fun v s₁ ⟨φ₁, p, ps₁, q₁, S₁, hv, x₁⟩ => ?_) noE) ht
  refine wpAny_Slice (wpAny_pure (wpAny_mono (q₁ A φ₁ s₁ R S₁) (fun u s₂ ⟨φ₂, p₂, ps₂, ⟨l, k, hc, hl, ek, h0, hq⟩, S₂, hu, x₂⟩ => wpAny_pure ?_) noE))
  subst ek
  obtain ⟨a, xs, rfl, ho, hr⟩ := S₂.list (S₁.vr x₂ hv) hc
  obtain ⟨t, rfl⟩ := VR.int_inv hu
  obtain ⟨j, rfl⟩ := Int.eq_ofNat_of_zero_le h0
  refine ⟨Heap.IsList.typeIs (s := { s₂ with heap := _ }) (ho.isList.push _), ?_⟩
  refine wpAny_mono (S₂.slice (Q := Q) ho hr .none (.int _ t) hl (fun hh r => ?_) hq) (fun w s₃ r => (r.ext x₂).ext x₁) noE
  rw [slicePick_upto']
  exact r.take j

theorem AE_slice_from {base e : Expr} {pp pos : Pos} {Q : PV → List PO → Prop}
    (h : AE C n base m ps fun p ps₁ => AE C n e m ps₁ fun q ps₂ => ∃ l k, contents ps₂ p = some l ∧ l.length ≤ 1000000 ∧ q = .int k ∧ 0 ≤ k ∧ Q (.lst (l.drop k.toNat)) ps₂)
    (ht : ∀ o r, letTemporaryGo base o r = pure () := by intro _ _; rfl) : AE C n (.Subscript base (.Slice (some e) none none pp) pos) m ps Q := by
  intro A φ s R S
  refine wpAny_Subscript_Slice list_getitem_lookup (wpAny_mono (h A φ s R S) (fun v s₁ ⟨φ₁, p, ps₁, q₁, S₁, hv, x₁⟩ => ?_) noE) ht
  refine wpAny_Slice (wpAny_mono (q₁ A φ₁ s₁ R S₁) (fun u s₂ ⟨φ₂, p₂, ps₂, ⟨l, k, hc, hl, ek, h0, hq⟩, S₂, hu, x₂⟩ => wpAny_pure (wpAny_pure ?_)) noE)
  subst ek
  obtain ⟨a, xs, rfl, ho, hr⟩ := S₂.list (S₁.vr x₂ hv) hc
  obtain ⟨t, rfl⟩ := VR.int_inv hu
  obtain ⟨j, rfl⟩ := Int.eq_ofNat_of_zero_le h0
  refine ⟨Heap.IsList.typeIs (s := { s₂ with heap := _ }) (ho.isList.push _), ?_⟩
  refine wpAny_mono (S₂.slice (Q := Q) ho hr (.int _ t) .none hl (fun hh r => ?_) hq) (fun w s₃ r => (r.ext x₂).ext x₁) noE
  rw [slicePick_from']
  exact r.drop j

/-! ## dict displays -/
theorem AE_dict0I {pos : Pos} {Q : PV → List PO → Prop} (q : Q (.obj ps.length) (ps ++ [.idict [] 0])) : AE C n (.Dict [] [] pos) m ps Q := by
  intro A φ s R S
  refine wpAny_Dict_empty ?_
  obtain ⟨S₂, x⟩ := S.alloc (o := { cls := .type "dict", data := .dict #[] }) (po := .idict [] 0) s.toks ⟨[], ⟨_, #[], Heap.get?_push_size _ rfl, ⟨rfl, rfl, rfl⟩, rfl, fun _ he => by simp at he, Pairs.nil, List.nodup_nil⟩, rfl, VRs.nil⟩
  exact ⟨_, .obj ps.length, _, q, S₂, vr_obj (by rw [S.len]; simp), x⟩
theorem AE_dict0T {pos : Pos} {Q : PV → List PO → Prop} (q : Q (.obj ps.length) (ps ++ [.tdict [] 0])) : AE C n (.Dict [] [] pos) m ps Q := by
  intro A φ s R S
  refine wpAny_Dict_empty ?_
  obtain ⟨S₂, x⟩ := S.alloc (o := { cls := .type "dict", data := .dict #[] }) (po := .tdict [] 0) s.toks ⟨[], ⟨_, #[], Heap.get?_push_size _ rfl, ⟨rfl, rfl, rfl⟩, rfl, rfl, fun _ he => by simp at he, List.nodup_nil⟩, rfl, VRs.nil, VRs.nil⟩
  exact ⟨_, .obj ps.length, _, q, S₂, vr_obj (by rw [S.len]; simp), x⟩

theorem AE_dict1T {k v : Expr} {pos : Pos} {Q : PV → List PO → Prop}
    (h : AE C n k m (ps ++ [.tdict [] 0]) fun p ps₁ => AE C n v m ps₁ fun x ps₂ => ∃ ks : List KA, p = .tup (ks.map KA.pv) ∧ ps₂[ps.length]? = some (.tdict [] 0) ∧ ∀ ep, Q (.obj ps.length) (ps₂.set ps.length (.tdict [(ks, x)] ep))) :
    AE C n (.Dict [some k] [v] pos) m ps Q := by
  intro A φ s R S
  refine wpAny_Dict_any rfl rfl (by simp) (by simp) ?_
  obtain ⟨S₂, x⟩ := S.alloc (o := { cls := .type "dict", data := .dict #[] }) (po := .tdict [] 0) s.toks ⟨[], ⟨_, #[], Heap.get?_push_size _ rfl, ⟨rfl, rfl, rfl⟩, rfl, rfl, fun _ he => by simp at he, List.nodup_nil⟩, rfl, VRs.nil, VRs.nil⟩
  refine evalPairs_cons (wpAny_mono (h A _ _ R S₂) (fun kv s₃ ⟨φ₃, p, ps₃, q₃, S₃, hk, x₃⟩ => ?_) noE)
  refine wpAny_bind (wpAny_mono (q₃ A _ _ R S₃) (fun vv s₄ ⟨φ₄, y, ps₄, ⟨ks, hp, ht, hq⟩, S₄, hv, x₄⟩ => ?_) noE)
  refine wpAny_bind (wpAny_standAt (wpAny_pure (evalPairs_nil ?_)))
  subst hp
  have hk' := S₃.vr x₄ hk
  obtain ⟨b, _, _, rfl, _⟩ := VR.tup_inv hk'
  have hd4 : φ₄[ps.length]? = some s.heap.objs.size := by
    obtain ⟨t, ht, _⟩ := (x₃.trans x₄).pre
    rw [ht, S.len]; simp
  obtain ⟨a, xs, ea, ha, hm, hd, hkk, h1, h2⟩ := S₄.tdict (vr_obj hd4) ht
  cases ea
  show wpAny _ _ (storeAll s.heap.objs.size [(.ref b, vv)]) _ _ _
  unfold storeAll
  rw [List.forIn_cons]
  have hlen : xs.length = 0 := by simpa using congrArg List.length hkk
  refine wpAny_bind (wpAny_bind (wpAny_dictSet_heap (knd := tupK C.prog C.w) (by exact R.units) hk'.isKey hd.of (fun h' hd' hs => wpAny_pure ?_) (by rw [hlen, sizeLine_eq]; omega)))
  show wpAny _ _ (forIn [] _ _) _ _ _
  rw [List.forIn_nil]
  refine wpAny_pure ?_
  obtain ⟨ep', hd''⟩ := TAt.to hd'
  obtain ⟨S', x'⟩ := S₄.turn (po := .tdict [(ks, y)] ep') (s₄.toks + (tupK C.prog C.w).draws ks) ha hs (let ⟨o, _, e, _⟩ := hd''; ⟨o, e⟩) fun xx => by
    obtain ⟨r1, r2, r3⟩ := storedH_rel (k := ks) (VR.ext xx.toMv S₄.noSeq hv) (VR.ext xx.toMv S₄.noSeq hk') hkk (VRs.ext xx.toMv S₄.noSeq h1) (VRs.ext xx.toMv S₄.noSeq h2)
    exact ⟨_, hd'', r1, r2, r3⟩
  exact ⟨φ₄, .obj ps.length, _, hq ep', S', vr_obj ha, ((x.trans x₃).trans x₄).trans x'⟩
end Mine

namespace Mine
open PySem PySem.Calls PyProof.Rows PySem.W PySem.SeqAt PySem.Spec

variable {C : Ctx} {n : Nat} {φ φ' : List Addr} {m : List (Option PV)} {ps : List PO} {s : Shared} {h h' : Heap}

/-! ## tests of one known side -/
theorem AS_if_t {t : Expr} {b o : List Stmt} {pos : Pos} {Q : AF → List (Option PV) → List PO → Prop} (h : AB C n t m ps fun c ps₁ => c = true ∧ ASs C n b m ps₁ Q) : AS C n (.If t b o pos) m ps Q :=
  AS_if (h.mono fun c ps ⟨e, q⟩ => ⟨fun _ => q, fun e' => (by rw [e] at e'; cases e')⟩)
theorem AS_if_f {t : Expr} {b o : List Stmt} {pos : Pos} {Q : AF → List (Option PV) → List PO → Prop} (h : AB C n t m ps fun c ps₁ => c = false ∧ ASs C n o m ps₁ Q) : AS C n (.If t b o pos) m ps Q :=
  AS_if (h.mono fun c ps ⟨e, q⟩ => ⟨fun e' => (by rw [e] at e'; cases e'), fun _ => q⟩)

/-! ## chains of comparisons -/
theorem AE_chain {l r₁ r₂ : Expr} {op₁ op₂ : CmpOp} {pos : Pos} {Q : PV → List PO → Prop}
    (h : AE C n l m ps fun p ps₁ => AE C n r₁ m ps₁ fun q ps₂ => AO2 C n (compareOp op₁) p q m ps₂ fun c ps₃ => ∃ b, c = .bool b ∧ (b = false → Q (.bool false) ps₃) ∧ (b = true → AE C n r₂ m ps₃ fun r ps₄ => AO2 C n (compareOp op₂) q r m ps₄ Q))
    (hm : lastMarks [op₁, op₂] [r₁, r₂] = false := by with_unfolding_all rfl) : AE C n (.Compare l [op₁, op₂] [r₁, r₂] pos) m ps Q := by
  intro A φ s R S
  refine Compare_chain (wpAny_mono (h A φ s R S) (fun a s₁ ⟨φ₁, p, ps₁, q₁, S₁, v₁, x₁⟩ => chain_link (wpAny_mono (q₁ A φ₁ s₁ R S₁) (fun b s₂ ⟨φ₂, q, ps₂, q₂, S₂, v₂, x₂⟩ =>
    wpAny_mono (q₂ A φ₂ s₂ a b R S₂ (S₁.vr x₂ v₁) v₂) (fun c s₃ ⟨φ₃, pc, ps₃, ⟨bb, e, qf, qt⟩, S₃, v₃, x₃⟩ => ?_) noE) noE)) noE) hm
  subst e
  rw [VR.bool_inv v₃]
  refine wpAny_truthy_bool ?_
  cases bb with
  | false => exact ⟨φ₃, .bool false, ps₃, qf rfl, S₃, vr_bool, (x₁.trans x₂).trans x₃⟩
  | true =>
    refine chain_last (wpAny_mono (qt rfl A φ₃ s₃ R S₃) (fun d s₄ ⟨φ₄, r, ps₄, q₄, S₄, v₄, x₄⟩ => wpAny_mono (q₄ A φ₄ s₄ _ _ R S₄ (S₃.vr x₄ (S₂.vr x₃ v₂)) v₄) (fun w s₅ r => ?_) noE) noE)
    exact (((r.ext x₄).ext x₃).ext x₂).ext x₁
/-! ## tuple targets -/
def AU (C : Ctx) (n : Nat) (ts : List Expr) (l : List PV) (m : List (Option PV)) (ps : List PO) (Q : List (Option PV) → List PO → Prop) : Prop :=
  ∀ A φ s vs, Room n A → St C φ m ps s → VRs φ s.heap l vs → wpAny (model C.prog C.w) A (assignInOrder ((assignEach ts C.env).map (·.2)) vs) (fun _ => PostU C φ s.heap Q) NoE s
theorem AU_nil {l : List PV} {Q : List (Option PV) → List PO → Prop} (q : Q m ps) : AU C n [] l m ps Q := fun A φ s vs R S hv => wpAny_pure ⟨φ, m, ps, q, S, Ext.refl⟩
theorem AU_cons {t : Expr} {ts : List Expr} {p : PV} {l : List PV} {Q : List (Option PV) → List PO → Prop} (h : AT C n t p m ps fun m₁ ps₁ => AU C n ts l m₁ ps₁ Q)
    (he : (assignEach (t :: ts) C.env).map (·.2) = assign t C.env :: (assignEach ts C.env).map (·.2) := by rfl) : AU C n (t :: ts) (p :: l) m ps Q := by
  intro A φ s vs R S hv
  obtain ⟨v, us, rfl, hv, hr⟩ := VRs.cons_inv hv
  rw [he]
  unfold assignInOrder
  refine wpAny_bind (wpAny_holding (wpAny_mono (h A φ s v R S hv) (fun _ s₁ ⟨φ₁, m₁, ps₁, q₁, S₁, x₁⟩ => ?_) noE))
  refine wpAny_mono (q₁ A φ₁ s₁ us R S₁ (S.vrs x₁ hr)) (fun _ s₂ ⟨φ₂, m₂, ps₂, q₂, S₂, x₂⟩ => ⟨φ₂, m₂, ps₂, q₂, S₂, x₁.trans x₂⟩) noE

theorem AT_tuple {elts : List Expr} {k : Nat} {pos : Pos} {l : List PV} {Q : List (Option PV) → List PO → Prop} (h : AU C n elts l m ps Q) (hn : (assignEach elts C.env).length = l.length := by rfl)
    (hstar : (assignEach elts C.env).findIdx? (·.1) = none := by rfl) : AT C n (.Tuple elts k pos) (.tup l) m ps Q := by
  intro A φ s v R S hv
  obtain ⟨a, vs, nn, rfl, _, ho, hr⟩ := VR.tup_inv hv
  have hsz : vs.size = l.length := by rw [← Array.length_toList]; exact hr.length
  refine wpAny_assign_Tuple R.1 (items := vs) ⟨_, ho, rfl, nn, rfl⟩ (by rw [hn, hsz]) hstar fun h' hx => ?_
  have hk : ∀ b o, s.heap.get? b = some o → h'.get? b = some o := fun b o e => hx b o (Nat.ne_of_lt (Heap.lt_size e)) e
  have S₁ := S.keep s.toks hk
  refine wpAny_mono (h A φ _ _ R S₁ (S.vrs (Ext.ofKeep hk) hr)) (fun _ s₂ ⟨φ₂, m₂, ps₂, q₂, S₂, x₂⟩ => ⟨φ₂, m₂, ps₂, q₂, S₂, (Ext.ofKeep hk).trans x₂⟩) noE

theorem AS_assign_T {t e : Expr} {pos : Pos} {Q : AF → List (Option PV) → List PO → Prop} (hs : swapsWith e (some t) pos.line C.env = pure false) (hw : swappedStores [t] e C.env = pure none)
    (h : AE C n e m ps fun p ps₁ => AT C n t p m ps₁ fun m₂ ps₂ => Q .next m₂ ps₂) (he : (assignEach [t] C.env).map (·.2) = [assign t C.env] := by rfl) : AS C n (.Assign [t] e pos) m ps Q := by
  intro A φ s R S
  rw [arm_exec_Assign]
  refine wpAny_bind (wpAny_standAt (wpAny_bind (wpAny_of_eq (show swapsWithSole [t] e pos.line C.env = pure false from hs) ?_)))
  simp only [Bool.false_eq_true, if_false]
  refine wpAny_bind (wpAny_mono (h A φ s R S) (fun v s₁ ⟨φ₁, p, ps₁, q₁, S₁, hv, x₁⟩ => ?_) noE)
  refine wpAny_bind (wpAny_of_eq hw ?_)
  rw [he]
  unfold assignStores assignAll
  refine wpAny_bind (wpAny_mono (q₁ A φ₁ s₁ v R S₁ hv) (fun _ s₂ ⟨φ₂, m₂, ps₂, q₂, S₂, x₂⟩ => wpAny_pure ⟨φ₂, .next, m₂, ps₂, q₂, S₂, rfl, x₁.trans x₂⟩) noE)

/-! ## += on a name -/
theorem wpAny_load {x : Str} {p : PV} {A : Around} {Q : Value → Shared → Prop} (R : Room n A) (S : St C φ m ps s) (hv : lk C m x = some p) (q : ∀ v, VR φ s.heap p v → Q v s)
    (hc : (x == ("__classdict__" : Str)) = false := by decide) : wpAny (model C.prog C.w) A (loadName C.env x) Q NoE s := by
  obtain ⟨ml, hn, hs⟩ := S.loc
  unfold lk at hv
  cases hm : m[ixOf x C.D]? with
  | none => rw [hm] at hv; cases hv
  | some ov =>
    rw [hm] at hv
    have : ov = some p := hv
    subst this
    have hlt : ixOf x C.D < C.D.length := by rw [← S.mlen]; exact (List.getElem?_eq_some_iff.mp hm).1
    have hy := List.getElem?_eq_getElem hlt
    generalize C.D[ixOf x C.D] = y at hy
    have hr := hs _ y _ hy hm
    have hst := S.ok.stat y (List.mem_of_getElem? hy)
    have hx := ixOf_spec hy
    obtain ⟨x', sl⟩ := y
    have hx' : x' = x := hx
    subst hx'
    cases sl with
    | loc =>
      obtain ⟨v, h1, h2⟩ := hr
      exact wpAny_loadName_local S.ok.kind hst hn h1 (q _ h2)
    | own c =>
      obtain ⟨v, h1, h2⟩ := hr
      exact wpAny_loadName_cell S.ok.kind hst.1 hst.2.1 h1 (q _ h2)
    | cap c =>
      obtain ⟨v, h1, h2⟩ := hr
      rcases hst.1 with hk | hk
      · exact wpAny_loadName_cell S.ok.kind hk hst.2.1 h1 (q _ h2)
      · exact wpAny_loadName_free S.ok.kind hk hst.2.1 h1 (q _ h2) hc

theorem AS_aug {x : Str} {p' pos : Pos} {op : Operator} {e : Expr} {p : PV} {Q : AF → List (Option PV) → List PO → Prop} {y : Str × Slot} (hv : lk C m x = some p) (hy : slotAt C x = some y)
    (h : AE C n e m ps fun q ps₁ => AO2 C n (inplaceOp op) p q m ps₁ fun r ps₂ => Q .next (upd C m x r) ps₂) (hw : ∀ c, y.2 ≠ .cap c := by intro c h; cases h)
    (hc : (x == ("__classdict__" : Str)) = false := by decide) : AS C n (.AugAssign (.Name x p') op e pos) m ps Q := by
  intro A φ s R S
  refine wpAny_AugAssign_Name (wpAny_load R S hv (fun v hr => ?_) hc)
  refine wpAny_mono (h A φ s R S) (fun u s₁ ⟨φ₁, q, ps₁, q₁, S₁, hu, x₁⟩ => wpAny_mono (q₁ A φ₁ s₁ v u R S₁ (S.vr x₁ hr) hu) (fun w s₂ ⟨φ₂, r, ps₂, q₂, S₂, hw', x₂⟩ => ?_) noE) noE
  exact wpAny_store S₂ hw' hy hw fun h' t S₃ x₃ => ⟨φ₂, .next, _, ps₂, q₂, S₃, rfl, (x₁.trans x₂).trans x₃⟩

/-! ## items of tuples -/
/-! ## del d[k] -/
/-! ## a list display of ints, membership among the values of a dict -/
end Mine

namespace Mine
open PySem PySem.Calls PyProof.Rows PySem.W PySem.SeqAt PySem.Spec

section
variable {key : Nat → Int} {n : Nat} {cmp : Nat → Nat → (Bool → Shared → Prop) → Shared → Prop} {s : Shared}

def KP (key : Nat → Int) (p : Array Nat) (i : Nat) : Int := key (p.getD i 0)
def PermR (n : Nat) (p : Array Nat) : Prop := p.size = n ∧ p.toList.Perm (List.range n)
def Up (key : Nat → Int) (p : Array Nat) (k : Nat) : Prop := ∀ i j, i < j → j < k → KP key p i < KP key p j
def Dn (key : Nat → Int) (p : Array Nat) (k : Nat) : Prop := ∀ i j, i < j → j < k → KP key p j < KP key p i

theorem PermR.lt {p : Array Nat} (G : PermR n p) {i : Nat} (hi : i < n) : p.getD i 0 < n := by
  have hs : i < p.size := by rw [G.1]; exact hi
  have : p.getD i 0 = p[i] := by simp [Array.getD, hs]
  rw [this]
  have hm : p[i] ∈ p.toList := by rw [← Array.mem_def]; exact Array.getElem_mem hs
  exact List.mem_range.mp (G.2.mem_iff.mp hm)
theorem PermR.inj {p : Array Nat} (G : PermR n p) {i j : Nat} (hi : i < n) (hj : j < n) (e : p.getD i 0 = p.getD j 0) : i = j := by
  have hs : i < p.size := by rw [G.1]; exact hi
  have hs' : j < p.size := by rw [G.1]; exact hj
  have e1 : p.getD i 0 = p[i] := by simp [Array.getD, hs]
  have e2 : p.getD j 0 = p[j] := by simp [Array.getD, hs']
  rw [e1, e2] at e
  have hnd : p.toList.Nodup := G.2.nodup_iff.mpr List.nodup_range
  have h1 : p.toList[i]'(by simpa using hs) = p.toList[j]'(by simpa using hs') := by simpa using e
  exact (List.getElem_inj hnd).mp h1

variable (inj : ∀ i j, i < n → j < n → key i = key j → i = j)
include inj
theorem PermR.ne {p : Array Nat} (G : PermR n p) {i j : Nat} (hi : i < n) (hj : j < n) (h : i ≠ j) : KP key p i ≠ KP key p j := fun e => h (G.inj hi hj (inj _ _ (G.lt hi) (G.lt hj) e))

variable (hc : ∀ i j C, i < n → j < n → C (decide (key i < key j)) s → cmp i j C s)
include hc

theorem kas_asc_ok {p : Array Nat} (G : PermR n p) {Q : Nat → Shared → Prop} : ∀ f a, 1 ≤ a → f + a = n → Up key p a → (∀ b, a ≤ b → b ≤ n → Up key p b → (b < n → KP key p b < KP key p (b - 1)) → Q b s) → (kas_asc p f a).kasWp cmp Q s
  | 0, a, h1, hf, hu, q => q a (Nat.le_refl _) (by omega) hu (fun h => by omega)
  | f + 1, a, h1, hf, hu, q => by
    refine hc _ _ _ (G.lt (by omega)) (G.lt (by omega)) ?_
    have hne := G.ne inj (i := a) (j := a - 1) (by omega) (by omega) (by omega)
    by_cases hlt : KP key p a < KP key p (a - 1)
    · have : decide (key (p.getD a 0) < key (p.getD (a - 1) 0)) = true := decide_eq_true hlt
      rw [this]
      simp only [if_true]
      exact q a (Nat.le_refl _) (by omega) hu (fun _ => hlt)
    · have : decide (key (p.getD a 0) < key (p.getD (a - 1) 0)) = false := decide_eq_false hlt
      rw [this]
      simp only [Bool.false_eq_true, if_false]
      refine kas_asc_ok G f (a + 1) (by omega) (by omega) (fun i j hij hj => ?_) fun b hb hbn hu' hl => q b (by omega) hbn hu' hl
      by_cases hja : j < a
      · exact hu i j hij hja
      · have hj' : j = a := by omega
        subst hj'
        have h2 : KP key p (j - 1) < KP key p j := by omega
        by_cases hi : i = j - 1
        · subst hi; exact h2
        · have := hu i (j - 1) (by omega) (by omega); omega

theorem kas_desc_ok {p : Array Nat} (G : PermR n p) {Q : Array Nat × Nat × Nat → Shared → Prop} : ∀ f a, 1 ≤ a → f + a = n → Dn key p a → (∀ b, a ≤ b → b ≤ n → Dn key p b → Q (p, b, 0) s) → (kas_desc f p a 0).kasWp cmp Q s
  | 0, a, h1, hf, hu, q => q a (Nat.le_refl _) (by omega) hu
  | f + 1, a, h1, hf, hu, q => by
    refine hc _ _ _ (G.lt (by omega)) (G.lt (by omega)) ?_
    have hne := G.ne inj (i := a) (j := a - 1) (by omega) (by omega) (by omega)
    by_cases hlt : KP key p a < KP key p (a - 1)
    · have : decide (key (p.getD a 0) < key (p.getD (a - 1) 0)) = true := decide_eq_true hlt
      rw [this]
      simp only [if_true]
      rw [if_neg (by omega)]
      refine kas_desc_ok G f (a + 1) (by omega) (by omega) (fun i j hij hj => ?_) fun b hb hbn hu' => q b (by omega) hbn hu'
      by_cases hja : j < a
      · exact hu i j hij hja
      · have hj' : j = a := by omega
        subst hj'
        by_cases hi : i = j - 1
        · subst hi; exact hlt
        · have := hu i (j - 1) (by omega) (by omega); omega
    · have : decide (key (p.getD a 0) < key (p.getD (a - 1) 0)) = false := decide_eq_false hlt
      rw [this]
      simp only [Bool.false_eq_true, if_false]
      refine hc _ _ _ (G.lt (by omega)) (G.lt (by omega)) ?_
      have h2 : KP key p (a - 1) < KP key p a := by omega
      have : decide (key (p.getD (a - 1) 0) < key (p.getD a 0)) = true := decide_eq_true h2
      rw [this]
      simp only [if_true]
      exact q a (Nat.le_refl _) (by omega) hu

omit inj hc in
theorem getD_of_get? {p q : Array Nat} {i j : Nat} (e : p[i]? = q[j]?) : p.getD i 0 = q.getD j 0 := by
  simp [Array.getD_eq_getD_getElem?, e]

omit inj hc in
theorem PermR.rev {p : Array Nat} (G : PermR n p) (i j : Nat) : PermR n (kas_rev p i j) :=
  ⟨(mirror_size _ _ _ _).trans G.1, ((mirror_perm p i j _).toList).trans G.2⟩
omit inj hc in
theorem PermR.bub {p : Array Nat} (G : PermR n p) (i j : Nat) : PermR n (bubble p i j) :=
  ⟨(bubble_size _ _ _).trans G.1, ((bubble_perm p i j).toList).trans G.2⟩
omit inj hc in
theorem KP_rev {p : Array Nat} (G : PermR n p) {m i : Nat} (hm : m ≤ n) (hi : i < m) : KP key (kas_rev p 0 m) i = KP key p (m - 1 - i) := by
  unfold KP
  refine congrArg key (getD_of_get? ?_)
  have := getElem?_mirror_all (xs := p) (i := 0) (j := m) (by rw [G.1]; exact hm) i
  unfold kas_rev
  rw [this, if_pos ⟨Nat.zero_le _, hi⟩]
  congr 1; omega

theorem kas_tail3_ok {p : Array Nat} (G : PermR n p) {Q : Nat × Array Nat → Shared → Prop} {m : Nat} (h1 : 1 ≤ m) (hm : m ≤ n) (hd : Dn key p m) (q : ∀ b p', PermR n p' → 1 ≤ b → b ≤ n → Up key p' b → Q (b, p') s) :
    (kas_tail3 m n p).kasWp cmp Q s := by
  unfold kas_tail3
  rw [KasT.kasWp_bind]
  refine kas_asc_ok inj hc (G.rev 0 m) (n - m) m h1 (by omega) (fun i j hij hj => ?_) fun b hb hbn hu _ => q b _ (G.rev 0 m) (by omega) hbn hu
  rw [KP_rev G hm (by omega), KP_rev G hm hj]
  exact hd _ _ (by omega) (by omega)

theorem kas_count_ok {p : Array Nat} (G : PermR n p) (hn : 2 ≤ n) {Q : Nat × Array Nat → Shared → Prop} (q : ∀ b p', PermR n p' → 1 ≤ b → b ≤ n → Up key p' b → Q (b, p') s) :
    (kas_count n p).kasWp cmp Q s := by
  unfold kas_count
  rw [KasT.kasWp_bind]
  refine kas_asc_ok inj hc G (n - 1) 1 (by omega) (by omega) (fun i j hij hj => by omega) fun b hb hbn hu hl => ?_
  by_cases hbe : b = n
  · subst hbe
    simp only [beq_self_eq_true, if_true]
    exact q b p G hb hbn hu
  · have : (b == n) = false := by simpa using hbe
    simp only [this, Bool.false_eq_true, if_false]
    by_cases hb1 : b > 1
    · rw [if_pos hb1]
      refine hc _ _ _ (G.lt (by omega)) (G.lt (by omega)) ?_
      have h2 := hu 0 (b - 1) (by omega) (by omega)
      have : decide (key (p.getD 0 0) < key (p.getD (b - 1) 0)) = true := decide_eq_true h2
      rw [this]
      simp only [if_true]
      exact q b p G hb hbn hu
    · rw [if_neg hb1]
      have hb' : b = 1 := by omega
      subst hb'
      have hl' := hl (by omega)
      unfold kas_descPart
      rw [KasT.kasWp_bind]
      refine kas_desc_ok inj hc G (n - (1 + 1)) (1 + 1) (by omega) (by omega) (fun i j hij hj => ?_) fun m hm hmn hd => ?_
      · have : i = 0 := by omega
        have : j = 1 := by omega
        subst i j
        exact hl'
      · simp only
        rw [if_neg (by omega)]
        exact kas_tail3_ok inj hc G (by omega) hmn hd q

theorem kas_place_ok {p : Array Nat} (G : PermR n p) {k : Nat} (hk : k < n) (hu : Up key p k) {Q : Nat → Shared → Prop}
    (q : ∀ l, l ≤ k → (∀ i, i < l → KP key p i < KP key p k) → (∀ i, l ≤ i → i < k → KP key p k < KP key p i) → Q l s) :
    ∀ f l r, l ≤ r → r ≤ k → r - l ≤ f → (∀ i, i < l → KP key p i < KP key p k) → (∀ i, r ≤ i → i < k → KP key p k < KP key p i) → (kas_place p k f l r).kasWp cmp Q s
  | 0, l, r, hlr, hrk, hf, a, b => q l (by omega) a fun i hi => b i (by omega)
  | f + 1, l, r, hlr, hrk, hf, a, b => by
    unfold kas_place
    by_cases h : l ≥ r
    · rw [if_pos h]; exact q l (by omega) a fun i hi => b i (by omega)
    · rw [if_neg h]
      have hm1 : l ≤ (l + r) / 2 := by omega
      have hm2 : (l + r) / 2 < r := by omega
      generalize (l + r) / 2 = mid at hm1 hm2
      refine hc _ _ _ (G.lt (by omega)) (G.lt (by omega)) ?_
      have hne := G.ne inj (i := k) (j := mid) (by omega) (by omega) (by omega)
      by_cases hlt : KP key p k < KP key p mid
      · have : decide (key (p.getD k 0) < key (p.getD mid 0)) = true := decide_eq_true hlt
        rw [this]
        simp only [if_true]
        refine kas_place_ok G hk hu q f l mid hm1 (by omega) (by omega) a fun i hi hik => ?_
        by_cases hi' : i = mid
        · subst hi'; exact hlt
        · have := hu mid i (by omega) hik; omega
      · have : decide (key (p.getD k 0) < key (p.getD mid 0)) = false := decide_eq_false hlt
        rw [this]
        simp only [Bool.false_eq_true, if_false]
        refine kas_place_ok G hk hu q f (mid + 1) r (by omega) hrk (by omega) (fun i hi => ?_) b
        by_cases hi' : i = mid
        · subst hi'; omega
        · have := hu i mid (by omega) (by omega); omega

theorem kas_bin_ok {Q : Array Nat → Shared → Prop} (q : ∀ p, PermR n p → Up key p n → Q p s) : ∀ f (p : Array Nat) k, PermR n p → f + k = n → Up key p k → (kas_bin f p k).kasWp cmp Q s
  | 0, p, k, G, hf, hu => q p G (by rw [show n = k by omega]; exact hu)
  | f + 1, p, k, G, hf, hu => by
    unfold kas_bin
    rw [KasT.kasWp_bind]
    refine kas_place_ok inj hc G (by omega) hu (fun l hl a b => ?_) k 0 k (by omega) (by omega) (by omega) (fun i hi => by omega) (fun i h1 h2 => by omega)
    refine kas_bin_ok q f _ (k + 1) (G.bub _ _) (by omega) fun i j hij hj => ?_
    have e : ∀ x, x ≤ k → KP key (bubble p k (k - l)) x = if x = l then KP key p k else if l < x then KP key p (x - 1) else KP key p x := by
      intro x hx
      have h1 := getElem?_bubble (xs := p) (src := k) (by rw [G.1]; omega) (k - l) (by omega) x
      rw [show k - (k - l) = l by omega] at h1
      unfold KP
      by_cases h2 : x = l
      · rw [if_pos h2] at h1 ⊢; exact congrArg key (getD_of_get? h1)
      · rw [if_neg h2] at h1 ⊢
        by_cases h3 : l < x
        · rw [if_pos ⟨h3, hx⟩] at h1; rw [if_pos h3]; exact congrArg key (getD_of_get? h1)
        · rw [if_neg (fun h => h3 h.1)] at h1; rw [if_neg h3]; exact congrArg key (getD_of_get? h1)
    rw [e i (by omega), e j (by omega)]
    repeat' split
    all_goals first
      | omega
      | (exact b _ (by omega) (by omega))
      | (exact a _ (by omega))
      | (exact hu _ _ (by omega) (by omega))

theorem kas_sort_ok (hn : 2 ≤ n) {Q : Array Nat → Shared → Prop} (q : ∀ p, PermR n p → Up key p n → Q p s) : (kas_sort n).kasWp cmp Q s := by
  unfold kas_sort
  rw [KasT.kasWp_bind]
  refine kas_count_ok inj hc ⟨by simp, by simp⟩ hn fun b p G h1 hb hu => ?_
  simp only
  by_cases hlt : b < n
  · rw [if_pos hlt]
    rw [show max b 1 = b by omega]
    exact kas_bin_ok inj hc q _ p b G (by omega) hu
  · rw [if_neg hlt]
    exact q p G (by rw [show n = b by omega]; exact hu)
end
end Mine

namespace Mine
open PySem PySem.Calls PyProof.Rows PySem.W PySem.SeqAt PySem.Spec

variable {C : Ctx} {n : Nat} {φ φ' : List Addr} {m : List (Option PV)} {ps : List PO} {s : Shared} {h h' : Heap}

def plt (x y : Int × Int) : Prop := x.1 < y.1 ∨ (x.1 = y.1 ∧ x.2 < y.2)

theorem pv2_shape {v : Value} {x : Int × Int} (r : VR φ h (pv2 x) v) : ∃ a n t u, v = .ref a ∧ h.get? a = some (tupO #[.int x.1 t, .int x.2 u] n) := by
  obtain ⟨a, vs, n, rfl, _, ho, hr⟩ := VR.tup_inv r
  obtain ⟨v1, us, e1, hv1, hr⟩ := VRs.cons_inv hr
  obtain ⟨v2, us', e2, hv2, hr⟩ := VRs.cons_inv hr
  have e3 := VRs.nil_inv hr
  subst e3 e2
  obtain ⟨t1, rfl⟩ := VR.int_inv hv1
  obtain ⟨t2, rfl⟩ := VR.int_inv hv2
  obtain ⟨vl⟩ := vs
  have e1' : vl = _ := e1
  subst e1'
  exact ⟨a, n, t1, t2, rfl, ho⟩

theorem vrs_pair_get {l : List (Int × Int)} {vs : List Value} (r : VRs φ h (l.map pv2) vs) {i : Nat} (hi : i < l.length) : VR φ h (pv2 (l.getD i (0, 0))) (vs.getD i .none) := by
  obtain ⟨w, hw, hr⟩ := r.get (i := i) (p := pv2 l[i]) (by simp [hi])
  have e1 : l.getD i (0, 0) = l[i] := by simp [List.getD_eq_getElem?_getD, hi]
  have e2 : vs.getD i Value.none = w := by simp [List.getD_eq_getElem?_getD, hw]
  rw [e1, e2]; exact hr

theorem ask_pairs {prog : Program} {w : World} {A : Around} {l : List (Int × Int)} {vs : List Value} (r : VRs φ s.heap (l.map pv2) vs) {i j : Nat} {C : Bool → Shared → Prop} (hi : i < l.length) (hj : j < l.length)
    (hC : C (decide ((l.getD i (0, 0)).1 < (l.getD j (0, 0)).1 ∨ ((l.getD i (0, 0)).1 = (l.getD j (0, 0)).1 ∧ (l.getD i (0, 0)).2 < (l.getD j (0, 0)).2))) s) : kas_ask prog w A (tuples' true) vs i j C s := by
  unfold kas_ask
  have hx := vrs_pair_get r hi
  have hy := vrs_pair_get r hj
  generalize l.getD i (0, 0) = x at hx hC
  generalize l.getD j (0, 0) = y at hy hC
  obtain ⟨a, k1, t1, t2, e1, ho1⟩ := pv2_shape hx
  obtain ⟨b, k2, u1, u2, e2, ho2⟩ := pv2_shape hy
  rw [e1, e2]
  refine kat_lt ho1 rfl ho2 rfl ?_
  show KatLex prog w A true false C [(Value.int x.1 t1, Value.int y.1 u1), (Value.int x.2 t2, Value.int y.2 u2)] 0 s
  refine kat_cons (wpAny_eqBool_int (kat_go (fun e => ?_) (fun e => ?_)))
  · have e' : x.1 = y.1 := by simpa using e
    refine kat_yes (kat_cons (wpAny_eqBool_int (kat_go (fun e => ?_) (fun e => ?_))))
    · have e2' : x.2 = y.2 := by simpa using e
      refine kat_yes (kat_nil ?_)
      rw [show decide (x.1 < y.1 ∨ (x.1 = y.1 ∧ x.2 < y.2)) = false from decide_eq_false (by omega)] at hC
      exact hC
    · refine kat_no (kat_one _ _ ?_)
      refine P.lt_int ?_
      show C (decide (x.2 < y.2)) s
      rw [show decide (x.1 < y.1 ∨ (x.1 = y.1 ∧ x.2 < y.2)) = decide (x.2 < y.2) from by simp [e']] at hC
      exact hC
  · have e' : x.1 ≠ y.1 := by simpa using e
    refine kat_no (oneLt_int ?_)
    rw [show decide (x.1 < y.1 ∨ (x.1 = y.1 ∧ x.2 < y.2)) = decide (x.1 < y.1) from by simp [e']] at hC
    exact hC

/-! ## the heap beside a list and the names -/
def newsAll (h : Heap) (L a : Addr) : List (Addr × Obj) := (List.range h.objs.size).filterMap fun b => if b = L ∨ b = a then none else (h.get? b).map (b, ·)
theorem mem_newsAll {L a b : Addr} {o : Obj} : (b, o) ∈ newsAll h L a ↔ b ≠ L ∧ b ≠ a ∧ h.get? b = some o := by
  unfold newsAll
  rw [List.mem_filterMap]
  constructor
  · rintro ⟨c, hc, e⟩
    split at e
    · cases e
    · rename_i hn
      cases hg : h.get? c with
      | none => rw [hg] at e; cases e
      | some o' => rw [hg] at e; cases e; exact ⟨fun e => hn (.inl e), fun e => hn (.inr e), hg⟩
  · rintro ⟨h1, h2, e⟩
    exact ⟨b, List.mem_range.mpr (Heap.lt_size e), by rw [if_neg (fun e => e.elim h1 h2), e]; rfl⟩

theorem St.ns (S : St C φ m ps s) {ml : Str → Option Value} (t : Nat) (hs : ∀ (i : Nat) (y : Str × Slot) (ov : Option PV), C.D[i]? = some y → m[i]? = some ov → SlotR φ s.heap ml y ov)
    (hn : s.heap.Ns C.env.locals ml) (hn' : h'.Ns C.env.locals ml) (hx : Heap.ExtBut C.env.locals s.heap h') : St C φ m ps { s with heap := h', toks := t } ∧ Ext C.W φ φ s.heap h' := by
  have mv : Mv (fun b => b = C.env.locals) φ φ s.heap h' := Mv.iter hx
  have ns : NoSeq (fun b => b = C.env.locals) s.heap := fun b hb o vs n e ed => by
    obtain ⟨o', es, ep, e', ed', _⟩ := hn
    subst hb
    rw [e'] at e; cases e; rw [ed] at ed'; cases ed'
  refine ⟨⟨S.ok, fun b o e => hx b o (fun e' => ?_) (S.base b o e), S.new, S.nd, S.len, fun k b po hb hp => OR.move mv ns (fun o e => hx b o (fun e' => ?_) e) (S.objs k b po hb hp), S.off, ?_, S.mlen, S.gens, S.os, S.mod, S.lim⟩, ?_⟩
  · subst e'; have := S.new _ (.inr (.inl rfl)); rw [this] at e; cases e
  · subst e'; exact S.off _ (.inl rfl) (List.mem_of_getElem? hb)
  · refine ⟨ml, hn', fun i y ov hi hm => ?_⟩
    refine SlotR.move mv ns (fun c v hc hv => ?_) (hs i y ov hi hm)
    obtain ⟨oc, hoc, hd⟩ := hv
    refine ⟨oc, hx c oc (fun e' => ?_) hoc, hd⟩
    obtain ⟨o', es, ep, e1, ed', _⟩ := hn
    subst e'
    rw [e1] at hoc; cases hoc; rw [hd] at ed'; cases ed'
  · refine ⟨⟨⟨[], by simp, by simp⟩, fun b o e hb hW => hx b o (fun e' => hW (.inl e')) e⟩, fun b o e => ?_⟩
    by_cases hb : b = C.env.locals
    · subst hb; obtain ⟨o', es, ep, e1, _⟩ := hn'; exact ⟨o', e1⟩
    · exact ⟨o, hx b o hb e⟩

theorem sort_small {prog : Program} {w : World} {A : Around} {E : Value → Shared → Prop} {a : Addr} {vs : List Value} {k : Nat} {P : PySem.Fin → Shared → Prop} (ho : s.heap.get? a = some (seqObj "list" vs.toArray k)) (h2 : vs.length < 2)
    (hP : ∀ h' c, h'.get? a = some (seqObj "list" vs.toArray c) → (∀ b o, b ≠ a → s.heap.get? b = some o → h'.get? b = some o) → P (.done (.ret .none)) { s with heap := h' }) :
    wpAny (model prog w) A (Builtin.«list.sort» ⟨[.ref a], []⟩) P E s := by
  have ha : a < s.heap.objs.size := Heap.lt_size ho
  have s1 := Heap.SameBut.update s.heap a (Obj.mapSeq fun _ => (#[] : Array Value))
  obtain ⟨e1, ho1⟩ : ∃ e1, (s.heap.update a (Obj.mapSeq fun _ => (#[] : Array Value))).get? a = some (seqObj "list" #[] e1) := ⟨_, get?_update_seq ho fun _ => #[]⟩
  rw [list_sort_plain]
  refine wpAny_bind (listItems_at ho rfl ?_)
  refine wpAny_bind (listUpdate_at ho rfl ?_ (by rw [List.size_toArray, sizeLine_eq]; omega) (Nat.zero_le _))
  refine wpAny_bind (seqEpoch_at ho1 rfl ?_)
  refine wpAny_bind (wpAny_newTuple ?_ (by show vs.length ≤ _; rw [sizeLine_eq]; omega))
  refine wpAny_bind (wpAny_newList ?_ (Nat.zero_le _))
  refine wpAny_holding ?_
  dsimp only
  have hn2 : vs.toArray.size < 2 := by rw [List.size_toArray]; omega
  rw [if_pos hn2, if_pos hn2]
  refine wpAny_bind (wpAny_pure (wpAny_bind (wpAny_pure ?_)))
  have ho3 : (((s.heap.update a (Obj.mapSeq fun _ => (#[] : Array Value))).push (seqObj "tuple" vs.toArray 0)).push (seqObj "list" #[] 0)).get? a = some (seqObj "list" #[] e1) := Heap.get?_push_of_some _ (Heap.get?_push_of_some _ ho1)
  have hz : (arrOf (SortSt.mk' general' (vs.toArray.zip vs.toArray) #[] 7 none)).map (·.2) = vs.toArray := by
    show (vs.toArray.zip vs.toArray).map (·.2) = _
    apply Array.toList_inj.mp
    simp [List.map_snd_zip]
  dsimp only
  rw [hz]
  refine wpAny_bind (seqEpoch_at ho3 rfl ?_)
  refine wpAny_bind (listUpdate_at ho3 rfl ?_ (Nat.zero_le _) (by rw [List.size_toArray, sizeLine_eq]; omega))
  obtain ⟨c2, hc2⟩ : ∃ c2, ((((s.heap.update a (Obj.mapSeq fun _ => (#[] : Array Value))).push (seqObj "tuple" vs.toArray 0)).push (seqObj "list" #[] 0)).update a (Obj.mapSeq fun _ => vs.toArray)).get? a = some (seqObj "list" vs.toArray c2) := ⟨_, get?_update_seq ho3 fun _ => vs.toArray⟩
  show wpAny _ _ (if (e1 != e1) = true then _ else _) _ _ _
  simp only [bne_self_eq_false, Bool.false_eq_true, if_false]
  refine wpAny_pure (hP _ c2 hc2 fun b o hb e => ?_)
  exact (Heap.get?_update_other _ _ (Ne.symm hb)).trans (Heap.get?_push_of_some _ (Heap.get?_push_of_some _ ((Heap.get?_update_other _ _ (Ne.symm hb)).trans e)))

theorem perm_map_getD {α : Type} (l : List α) (d : α) {p : List Nat} (hp : p.Perm (List.range l.length)) : (p.map fun i => l.getD i d).Perm l := by
  have h1 : ((List.range l.length).map fun i => l.getD i d) = l := by
    refine List.ext_getElem (by simp) fun i h1 h2 => ?_
    simp [List.getD_eq_getElem?_getD, h2]
  have := hp.map fun i => l.getD i d
  rwa [h1] at this

theorem vrs_perm {l : List (Int × Int)} {vs : List Value} (r : VRs φ h (l.map pv2) vs) : ∀ (p : List Nat), (∀ i ∈ p, i < l.length) → VRs φ h ((p.map fun i => l.getD i (0, 0)).map pv2) (p.map fun i => vs.getD i Value.none)
  | [], _ => VRs.nil
  | i :: p, hp => VRs.cons (vrs_pair_get r (hp i (.head _))) (vrs_perm r p fun j hj => hp j (.tail _ hj))

theorem firsts {l : List (Int × Int)} {vs : List Value} (r : VRs φ h (l.map pv2) vs) : ∃ fs, KatTups h vs fs ∧ fs.length = vs.length ∧ ∀ v ∈ fs, ∃ i t, v = Value.int i t := by
  induction l generalizing vs with
  | nil => rw [VRs.nil_inv r]; exact ⟨[], KatTups.nil, rfl, fun v hv => nomatch hv⟩
  | cons x l ih =>
    obtain ⟨v, us, rfl, hv, hr⟩ := VRs.cons_inv (p := pv2 x) (ps := l.map pv2) r
    obtain ⟨fs, h1, h2, h3⟩ := ih hr
    obtain ⟨a, k1, t1, t2, rfl, ho1⟩ := pv2_shape hv
    refine ⟨.int x.1 t1 :: fs, KatTups.cons ho1 rfl rfl (by simp) h1, by simp [h2], fun v hv => ?_⟩
    rcases List.mem_cons.mp hv with rfl | hv
    · exact ⟨_, _, rfl⟩
    · exact h3 v hv

theorem sort_pairs {A : Around} (S : St C φ m ps s) {h1 : Heap} {t1 k : Nat} {a : Addr} {vs : List Value} (hk : ∀ b o, s.heap.get? b = some o → h1.get? b = some o) (ha : s.heap.get? a = none) (ho : h1.get? a = some (seqObj "list" vs.toArray k))
    {l : List (Int × Int)} (hr : VRs φ s.heap (l.map pv2) vs) (hnd : l.Nodup) (hb : ∀ x ∈ l, 0 ≤ x.2 ∧ x.2 < 4) (hl : l.length < 60) {Q : PV → List PO → Prop} (q : ∀ l' : List (Int × Int), l'.Perm l → l'.Pairwise plt → Q (.lst (l'.map pv2)) ps) :
    wpAny (model C.prog C.w) A (call (.builtin "list.sort") [.ref a]) (fun _ s' => Post C φ m s.heap Q (.ref a) s') NoE { s with heap := h1, toks := t1 } := by
  have hlen : vs.length = l.length := by have := hr.length; simpa using this
  obtain ⟨ml, hn, hs⟩ := S.loc
  have aL : a ≠ C.env.locals := fun e => by obtain ⟨o, _, _, e1, _⟩ := hn; rw [← e, ha] at e1; cases e1
  have aφ : a ∉ φ := fun hm => by
    obtain ⟨j, hj⟩ := List.mem_iff_getElem?.mp hm
    have hlt : j < ps.length := by rw [S.len]; exact (List.getElem?_eq_some_iff.mp hj).1
    obtain ⟨o', ho'⟩ := (S.objs j _ ps[j] hj (List.getElem?_eq_getElem hlt)).there
    rw [ha] at ho'; cases ho'
  have fin : ∀ (h' : Heap) (t : Nat) (l' : List (Int × Int)) (vs' : List Value) c, l'.Perm l → l'.Pairwise plt → VRs φ s.heap (l'.map pv2) vs' → h'.get? a = some (seqObj "list" vs'.toArray c) → h'.Ns C.env.locals ml → Heap.ExtBut C.env.locals s.heap h' →
      Post C φ m s.heap Q (.ref a) { s with heap := h', toks := t } := by
    intro h' t l' vs' c hp hpw hr' ha' hn' hx
    obtain ⟨S', x⟩ := S.ns t hs hn hn' hx
    exact ⟨φ, .lst (l'.map pv2), ps, q l' hp hpw, S', vr_lst aφ ⟨c, ha'⟩ (S.vrs x hr'), x⟩
  refine wpAny_call_entry slot_list_sort ⟨_, ho, rfl⟩ entry_list_sort ?_ (args_list_sort _)
  by_cases h2 : vs.length < 2
  · refine sort_small ho h2 fun h' c ha' hk' => ⟨_, rfl, ?_⟩
    have hpw : l.Pairwise plt := by
      match l, (by omega : l.length < 2) with
      | [], _ => exact List.Pairwise.nil
      | [x], _ => exact List.pairwise_singleton _ _
    refine fin h' t1 l vs c (List.Perm.refl _) hpw hr ha' ?_ fun b o hb e => hk' b o (fun e' => by rw [e', ha] at e; cases e) (hk b o e)
    exact hn.at' fun o e => hk' _ o (Ne.symm aL) (hk _ o e)
  · have hinj : ∀ i j, i < vs.length → j < vs.length → 4 * (l.getD i (0, 0)).1 + (l.getD i (0, 0)).2 = 4 * (l.getD j (0, 0)).1 + (l.getD j (0, 0)).2 → i = j := by
      intro i j hi hj e
      rw [hlen] at hi hj
      have e1 : l.getD i (0, 0) = l[i] := by simp [List.getD_eq_getElem?_getD, hi]
      have e2 : l.getD j (0, 0) = l[j] := by simp [List.getD_eq_getElem?_getD, hj]
      rw [e1, e2] at e
      have b1 := hb l[i] (List.getElem_mem hi)
      have b2 := hb l[j] (List.getElem_mem hj)
      have e3 : l[i] = l[j] := by
        rw [Prod.ext_iff]
        constructor <;> omega
      exact (List.getElem_inj hnd).mp e3
    have hbd : ∀ i, i < vs.length → 0 ≤ (l.getD i (0, 0)).2 ∧ (l.getD i (0, 0)).2 < 4 := fun i hi => by
      rw [hlen] at hi
      have e1 : l.getD i (0, 0) = l[i] := by simp [List.getD_eq_getElem?_getD, hi]
      rw [e1]; exact hb _ (List.getElem_mem hi)
    have F : Fr { objs := #[] } C.env.locals h1 ml := ⟨hn.at' fun o e => hk _ o e, fun b o e => by simp [Heap.get?] at e, Nat.zero_le _⟩
    have N : News { objs := #[] } C.env.locals h1 (newsAll h1 C.env.locals a) := fun p hp => by
      obtain ⟨b, o⟩ := p
      obtain ⟨n1, n2, n3⟩ := mem_newsAll.mp hp
      exact ⟨n3, n1, by simp [Heap.get?]⟩
    have hx : ∀ (h' : Heap) news, News { objs := #[] } C.env.locals h' news → (∀ p ∈ newsAll h1 C.env.locals a, p ∈ news) → Heap.ExtBut C.env.locals s.heap h' := fun h' news N' hsub b o hb e =>
      (N' (b, o) (hsub _ (mem_newsAll.mpr ⟨hb, fun e' => by (rw [e', ha] at e; cases e), hk b o e⟩))).1
    refine kat_list_sort (s := { s with heap := h1, toks := t1 }) F N ho aL (by simp [Heap.get?]) (fun p hp => ((mem_newsAll (h := h1) (L := C.env.locals) (a := a) (b := p.1) (o := p.2)).mp hp).2.1) (by omega) (by omega) fun e1 h' F' N' => ?_
    have x1 := hx h' _ N' fun p hp => .tail _ hp
    obtain ⟨S', xx⟩ := S.ns t1 hs hn F'.ns x1
    have hr' := S.vrs xx hr
    obtain ⟨fs, hf1, hf2, hf3⟩ := firsts hr'
    refine kat_kind (T := .type "int") hf1 (by omega) (fun v hv => ?_) (by decide) ?_
    · obtain ⟨i, t, rfl⟩ := hf3 v hv
      exact Looks.of_pure rfl
    · show (kas_sort vs.length).kasWp (kas_ask _ _ _ (tuples' true) vs) _ _
      refine kas_sort_ok (key := fun i => 4 * (l.getD i (0, 0)).1 + (l.getD i (0, 0)).2) (n := vs.length) hinj (fun i j K hi hj hK => ?_) (by omega) fun p G hu => ?_
      · refine ask_pairs (φ := φ) hr' (by omega) (by omega) ?_
        have b1 := hbd i hi
        have b2 := hbd j hj
        have : decide (4 * (l.getD i (0, 0)).1 + (l.getD i (0, 0)).2 < 4 * (l.getD j (0, 0)).1 + (l.getD j (0, 0)).2) = decide ((l.getD i (0, 0)).1 < (l.getD j (0, 0)).1 ∨ ((l.getD i (0, 0)).1 = (l.getD j (0, 0)).1 ∧ (l.getD i (0, 0)).2 < (l.getD j (0, 0)).2)) := by
          rw [decide_eq_decide]; omega
        rw [← this]; exact hK
      · refine KasFin.intro F' N' (UpdF.head fun p hp => ((mem_newsAll (h := h1) (L := C.env.locals) (a := a) (b := p.1) (o := p.2)).mp hp).2.1) fun h'' c F'' N'' => ⟨_, rfl, ?_⟩
        have hpr : p.toList.Perm (List.range l.length) := by rw [← hlen]; exact G.2
        refine fin h'' t1 (p.toList.map fun i => l.getD i (0, 0)) (p.toList.map fun i => vs.getD i Value.none) c (perm_map_getD l (0, 0) hpr) ?_ (vrs_perm hr _ fun i hi => List.mem_range.mp (hpr.mem_iff.mp hi)) (N'' _ (.head _)).1 F''.ns (hx h'' _ N'' fun p hp => .tail _ hp)
        rw [List.pairwise_iff_getElem]
        intro i j hi hj hij
        simp only [List.length_map, Array.length_toList] at hi hj
        simp only [List.getElem_map, Array.getElem_toList]
        have h3 := hu i j hij (by rw [← G.1]; exact hj)
        have g1 : p.getD i 0 = p[i] := by simp [Array.getD, hi]
        have g2 : p.getD j 0 = p[j] := by simp [Array.getD, hj]
        unfold KP at h3
        rw [g1, g2] at h3
        have b1 := hbd p[i] (by rw [← g1]; exact G.lt (by rw [← G.1]; exact hi))
        have b2 := hbd p[j] (by rw [← g2]; exact G.lt (by rw [← G.1]; exact hj))
        simp only at h3
        unfold plt
        omega
end Mine

namespace Mine
open PySem PySem.Calls PyProof.Rows PySem.W PySem.SeqAt PySem.Spec

variable {C : Ctx} {n : Nat} {φ φ' : List Addr} {m : List (Option PV)} {ps : List PO} {s : Shared} {h h' : Heap}

theorem lk_list_keys : typeLookup (.type "list") "keys" = pure none := by rw [typeLookup_type, builtinLookup_eq_fast]; kernel_rfl

theorem keys_none {prog : Program} {w : World} {A : Around} {E : Value → Shared → Prop} {a : Addr} {xs : Array Value} {k : Nat} {Q : Option Value → Shared → Prop} (hh : A.handled = none) (hx : s.heap.get? a = some (seqObj "list" xs k))
    (hq : ∀ h' t', (∀ b o, s.heap.get? b = some o → h'.get? b = some o) → Q none { s with heap := h', toks := t' }) : wpAny (model prog w) A (getAttr? (.ref a) "keys") Q E s := by
  obtain ⟨hp, g, d, tk, os⟩ := s
  have hT : ∀ tk', (⟨hp, g, d, tk', os⟩ : Shared).TypeIs (.ref a) "list" := fun _ => ⟨_, hx, rfl⟩
  have f1 := sub_AttributeError
  have f3 := F.slot_list_getattribute.lookup
  have f4 := F.slot_list_getattribute.bind (.ref a)
  have f5 := am_list_getattr_none
  unfold getAttr? getAttrBy? getAttrBy
  repeat (any_goals (first | assumption | exact hT _ | ((with_reducible show wpAny _ _ (call (Value.builtin "list.__getattribute__") _ _) _ _ _); refine call_meets F.slot_list_getattribute (hT _) am_entry_list_getattribute (F.args_list_getattribute_2 _ _) (meets_getattribute_miss_list a xs k #[] "keys" _ lk_list_keys (by decide) (by decide)) ⟨hx, hh, fun h' tk' e hx' => ?_⟩) | wp_step))
  obtain ⟨t', u', he⟩ := hx'.there
  show wpAny _ _ (getattributeRaised _ _ _ _ _ _ _) _ _ _
  unfold getattributeRaised
  repeat (any_goals (first | assumption | wp_step))
  exact hq _ _ hx'.keeps

/-! ## a store, said of the tracked objects -/
def DSetOk {K : Type} [DecidableEq K] (mk : List (K × PV) → Nat → PO) (kpv : K → PV) : Prop :=
  ∀ {C : Ctx} {φ : List Addr} {m : List (Option PV)} {ps : List PO} {s : Shared} {k : Nat} {a : Addr} {es : List (K × PV)} {ep : Nat} {kk : K} {x : PV} {kv v : Value} {A : Around} {Q : Unit → Shared → Prop} {E : Value → Shared → Prop},
    A.units < cLine → St C φ m ps s → φ[k]? = some a → ps[k]? = some (mk es ep) → es.length ≤ 1000000 → VR φ s.heap (kpv kk) kv → VR φ s.heap x v →
    (∀ h' t ep', St C φ m (ps.set k (mk (kput es kk x) ep')) { s with heap := h', toks := t } → Ext C.W φ φ s.heap h' → Heap.SameBut a s.heap h' → Q () { s with heap := h', toks := t }) → wpAny (model C.prog C.w) A (dictSet a kv v) Q E s

theorem dset_t : DSetOk (K := List KA) .tdict (fun i => .tup (i.map KA.pv)) := by
  intro C φ m ps s k a es ep i x kv v A Q E hu S ha e hl hi hv q
  obtain ⟨a', xs, e1, ha', hm, hd, hk, h1, h2⟩ := S.tdict (vr_obj ha) e
  cases e1
  obtain ⟨b, _, _, rfl, _⟩ := VR.tup_inv hi
  have hlen : xs.length = es.length := by simpa using congrArg List.length hk
  refine wpAny_dictSet_heap (knd := tupK C.prog C.w) hu hi.isKey hd.of (fun h' hd' hs => ?_) (by rw [hlen, sizeLine_eq]; omega)
  obtain ⟨ep', hd''⟩ := TAt.to hd'
  obtain ⟨S', x'⟩ := S.turn (po := .tdict (kput es i x) ep') (s.toks + (tupK C.prog C.w).draws i) ha hs (let ⟨o, _, e, _⟩ := hd''; ⟨o, e⟩) fun xx => by
    obtain ⟨r1, r2, r3⟩ := storedH_rel (k := i) (VR.ext xx.toMv S.noSeq hv) (VR.ext xx.toMv S.noSeq hi) hk (VRs.ext xx.toMv S.noSeq h1) (VRs.ext xx.toMv S.noSeq h2)
    exact ⟨_, hd'', r1, r2, r3⟩
  exact q h' _ ep' S' x' hs

theorem dset_i : DSetOk (K := Int) .idict .int := by
  intro C φ m ps s k a es ep i x kv v A Q E hu S ha e hl hi hv q
  obtain ⟨a', xs, e1, ha', hm, hd, hk, hr⟩ := S.idict (vr_obj ha) e
  cases e1
  obtain ⟨t, rfl⟩ := VR.int_inv hi
  have hlen : xs.length = es.length := by simpa using congrArg List.length hk
  refine wpAny_dictSet_pairs isInt_of hd.dictOf (fun h' hd' hs => ?_) (by rw [hlen, sizeLine_eq]; omega)
  obtain ⟨ep', hd''⟩ := hd'.dictAt
  obtain ⟨S', x'⟩ := S.turn (po := .idict (kput es i x) ep') (s.toks + 1) ha hs (let ⟨o, _, e, _⟩ := hd''; ⟨o, e⟩) fun xx => by
    obtain ⟨r1, r2⟩ := stored_rel (k := i) (VR.ext xx.toMv S.noSeq hv) hk (VRs.ext xx.toMv S.noSeq hr)
    exact ⟨_, hd'', r1, r2⟩
  exact q h' _ ep' S' x' hs

def putAll {K : Type} [DecidableEq K] (acc l : List (K × PV)) : List (K × PV) := l.foldl (fun d x => kput d x.1 x.2) acc

theorem entry_dict_loop : entryFor table "dict.update.loop" = some Builtin.«dict.update.loop» := entryFor_of_tree (by kernel_rfl)
theorem plain_dict_loop : plainId "dict.update.loop" = true := by decide +kernel

section
variable {K : Type} [DecidableEq K] {mk : List (K × PV) → Nat → PO} {kpv : K → PV}

theorem kput_length (es : List (K × PV)) (k : K) (x : PV) : (kput es k x).length ≤ es.length + 1 := by
  unfold kput
  split
  · simp
  · simp

theorem dict_loop (hset : DSetOk mk kpv) {items : List (K × PV)} (hlen : items.length ≤ 1000) {kd : Nat} {d I la : Addr} {A : Around} (hh : A.handled = none) (hu : A.in1.units < cLine) {R : Result → Shared → Prop} {φ : List Addr} {m : List (Option PV)} {h0 : Heap}
    (hI0 : h0.get? I = none) (hIφ : I ∉ φ) (ap : Apart C I) (hd : φ[kd]? = some d)
    (hR : ∀ s' ps' ep, St C φ m (ps'.set kd (mk (putAll [] items) ep)) s' → ps' = ps → Ext C.W φ φ h0 s'.heap → R (.ok (.ret .none)) s') :
    ∀ (j i : Nat) (ep : Nat) (s : Shared) (pp : List PO), j + i = items.length → pp = ps.set kd (mk (putAll [] (items.take i)) ep) → St C φ m pp s → kd < ps.length → (putAll [] (items.take i)).length ≤ i → Ext C.W φ φ h0 s.heap → s.heap.IsListIter I la i →
      VR φ s.heap (.lst (items.map fun x => .tup [kpv x.1, x.2])) (.ref la) → codeAny (model C.prog C.w) A (.builtin "dict.update.loop" ⟨[.ref d, .ref I, rawInt i, .none], []⟩) R s := by
  intro j
  induction j with
  | zero =>
    intro i ep s pp hji hpp S hkd hln x hit hv
    obtain ⟨la', xs, e1, hla, hol, hr⟩ := VR.lst_inv hv
    cases e1
    have hsz : xs.size = items.length := by rw [← Array.length_toList]; simpa using hr.length
    refine codeAny_builtin entry_dict_loop ?_
    rw [Around.under_plainId plain_dict_loop _]
    show wpAny _ A.in1 (pyNext (.ref I) >>= _) _ _ s
    refine wpAny_bind (wpAny_pyNext_list_end hh hit hol.isList (Array.getElem?_eq_none (by omega)) fun h' hx => ?_)
    obtain ⟨oI, hoI, hcI, hdI⟩ := hit
    have S' := S.iter s.toks hx ap hIφ (fun o vs n e ed => by rw [hoI] at e; cases e; rw [hdI] at ed; cases ed)
    have htk : items.take i = items := List.take_of_length_le (by omega)
    rw [htk] at hpp
    subst hpp
    exact wpAny_pure (hR _ ps ep S' rfl (x.iter hx hI0))
  | succ j ih =>
    intro i ep s pp hji hpp S hkd hln x hit hv
    obtain ⟨la', xs, e1, hla, hol, hr⟩ := VR.lst_inv hv
    cases e1
    have hi : i < items.length := by omega
    obtain ⟨w, hw, hwr⟩ := hr.get (i := i) (p := .tup [kpv items[i].1, items[i].2]) (by simp [hi])
    refine codeAny_builtin entry_dict_loop ?_
    rw [Around.under_plainId plain_dict_loop _]
    show wpAny _ A.in1 (pyNext (.ref I) >>= _) _ _ s
    refine wpAny_bind (wpAny_pyNext_list_item hit hol.isList (x := w) (by rw [← Array.getElem?_toList]; exact hw) fun h' hit' hs => ?_)
    obtain ⟨oI, hoI, hcI, hdI⟩ := hit
    have hns : ∀ o vs n, s.heap.get? I = some o → o.data ≠ .seq vs n := fun o vs n e ed => by rw [hoI] at e; cases e; rw [hdI] at ed; cases ed
    have S₁ := S.iter s.toks hs.extBut ap hIφ hns
    have mv : Mv (fun b => b = I) φ φ s.heap h' := Mv.iter hs.extBut
    have ns : NoSeq (fun b => b = I) s.heap := fun b hb o vs n e => hns o vs n (by rw [← hb]; exact e)
    have hwr' := VR.ext mv ns hwr
    have hv' := VR.ext mv ns hv
    obtain ⟨T, tv, tn, rfl, _, hT, htr⟩ := VR.tup_inv hwr'
    obtain ⟨kv, us, e2, hkv, htr⟩ := VRs.cons_inv htr
    obtain ⟨vv, us', e3, hvv, htr⟩ := VRs.cons_inv htr
    have e4 := VRs.nil_inv htr
    subst e4 e3
    show wpAny _ A.in1 (holding _ _ >>= _) _ _ _
    refine wpAny_bind (wpAny_holding ?_)
    refine wpAny_bind (wpAny_tryCatch ?_)
    unfold Builtin.Dict.pairItems
    refine wpAny_bind (wpAny_typeOf (T := "tuple") ⟨_, hT, rfl⟩ ?_)
    rw [if_pos (by decide)]
    refine wpAny_bind (wpAny_seqItems hT rfl (wpAny_pure ?_))
    rw [show ((some tv).getD #[]).toList = [kv, vv] from e2]
    show wpAny _ _ (holding [kv, vv] (dictSet d kv vv)) _ _ _
    have hIns : kd < pp.length := by rw [hpp, List.length_set]; exact hkd
    refine wpAny_holding (hset hu S₁ hd (es := putAll [] (items.take i)) (ep := ep) (by rw [hpp]; simp [hkd]) (by omega) hkv hvv fun h'' t ep' S₂ x₂ hs₂ => ?_)
    have hId : I ≠ d := fun e => hIφ (e ▸ List.mem_of_getElem? hd)
    have htk : putAll [] (items.take (i + 1)) = kput (putAll [] (items.take i)) items[i].1 items[i].2 := by
      unfold putAll
      rw [List.take_succ, List.foldl_append, List.getElem?_eq_getElem hi]
      rfl
    refine wpAny_pure ⟨plainId_quiet plain_dict_loop _, ?_⟩
    refine ih (i + 1) ep' _ _ (by omega) rfl (by rw [htk]; rw [hpp, List.set_set] at S₂; exact S₂) hkd ?_ ((x.iter hs.extBut hI0).trans x₂) ?_ (S₁.vr x₂ hv')
    · rw [htk]; have := kput_length (putAll [] (items.take i)) items[i].1 items[i].2; omega
    · obtain ⟨o', e', r⟩ := hit'
      exact ⟨o', (hs₂.2 I hId).trans e', r⟩

theorem BC_dict (hset : DSetOk mk kpv) (hnew : ∀ (prog : Program) (w : World) (φ : List Addr) (h : Heap), OR prog w φ (h.push { cls := .type "dict", data := .dict #[] }) h.objs.size (mk [] 0)) {items : List (K × PV)} (hlen : items.length ≤ 1000) {Q : PV → List PO → Prop}
    (q : ∀ ep, Q (.obj ps.length) (ps ++ [mk (putAll [] items) ep])) : BC C n (.type "dict") [.lst (items.map fun x => .tup [kpv x.1, x.2])] m ps Q := by
  intro A φ s vs R S hv
  obtain ⟨v, us, rfl, hv, hr⟩ := VRs.cons_inv hv
  rw [VRs.nil_inv hr]
  obtain ⟨la, xs, rfl, hla, ⟨kk, hol⟩, hr⟩ := VR.lst_inv hv
  refine callType_codes (Q₁ := fun obj s₁ => obj = .ref s.heap.objs.size ∧ s₁ = { s with heap := s.heap.push { cls := .type "dict", data := .dict #[] } }) F.kt_called_dict (F.kt_typeCall_dict_1 _) F.entry_dict_init (kt_code_dict_new _ ⟨rfl, rfl⟩) ?_
  rintro obj s₁ ⟨rfl, rfl⟩
  obtain ⟨S₁, x₁⟩ := S.alloc (o := { cls := .type "dict", data := .dict #[] }) (po := mk [] 0) s.toks (hnew _ _ _ _)
  have hT : ({ s with heap := s.heap.push { cls := .type "dict", data := .dict #[] } } : Shared).TypeIs (.ref s.heap.objs.size) "dict" := ⟨_, Heap.get?_push_size _ rfl, rfl⟩
  have hol₁ : (s.heap.push { cls := .type "dict", data := .dict #[] }).get? la = some (seqObj "list" xs kk) := Heap.get?_push_of_some _ hol
  refine ⟨hT, F.args_dict_init_2 _ _, ?_⟩
  unfold Builtin.«dict.__init__»
  refine wpAny_bind ?_
  unfold Builtin.Dict.selfAndRest
  refine wpAny_bind (wpAny_notOrdered_dict hT ?_)
  show wpAny _ _ (pure (s.heap.objs.size, [Value.ref la])) _ _ _
  refine wpAny_pure ?_
  show wpAny _ _ (Builtin.Dict.updateFrom "dict.__init__" s.heap.objs.size (.ref la) [] .none) _ _ _
  unfold Builtin.Dict.updateFrom
  refine wpAny_bind (wpAny_typeOf (T := "list") ⟨_, hol₁, rfl⟩ ?_)
  rw [if_pos (by decide)]
  refine wpAny_bind (keys_none (by exact R.1) hol₁ fun h₂ t₂ hk₂ => ?_)
  rw [if_pos (by rfl)]
  have hol₂ : h₂.PlainList la xs := ⟨kk, hk₂ _ _ hol₁⟩
  have S₂ := S₁.keep t₂ hk₂
  refine wpAny_bind (wpAny_rule (wpAny_bind (wpAny_pyIter_list hol₂.isList ?_)))
  obtain ⟨ap, hIφ, hI0⟩ := apart_size S₂ (h₂ := h₂) (fun _ _ e => e)
  have x₂ : Ext C.W (φ ++ [s.heap.objs.size]) (φ ++ [s.heap.objs.size]) (s.heap.push { cls := .type "dict", data := .dict #[] }) h₂ := Ext.ofKeep hk₂
  refine wpAny_pure ⟨plainId_quiet plain_dict_loop _, ?_⟩
  have hd : (φ ++ [s.heap.objs.size])[ps.length]? = some s.heap.objs.size := by rw [S.len]; simp
  refine dict_loop (mk := mk) (kpv := kpv) @hset hlen (kd := ps.length) (h0 := h₂) (ps := ps ++ [mk [] 0]) (by exact R.1) (by have := R.2.2; show A.units + 1 + 1 < _; omega) hI0 hIφ ap hd ?_ items.length 0 0 _ (ps ++ [mk [] 0]) (by omega) (by simp [putAll]) (S₂.push _ _) (by simp) (by simp [putAll])
    (Ext.push _) ⟨_, Heap.get?_push_size _ rfl, rfl, rfl⟩ (S₂.vr (Ext.push _) (S₁.vr x₂ (S.vr x₁ hv)))
  rintro s' ps' ep S' rfl x'
  have : (ps ++ [mk [] 0]).set ps.length (mk (putAll [] items) ep) = ps ++ [mk (putAll [] items) ep] := by simp
  rw [this] at S'
  exact ⟨rfl, _, .obj ps.length, _, q ep, S', vr_obj hd, (x₁.trans x₂).trans x'⟩
end

theorem or_newT (prog : Program) (w : World) (φ : List Addr) (h : Heap) : OR prog w φ (h.push { cls := .type "dict", data := .dict #[] }) h.objs.size (.tdict [] 0) :=
  ⟨[], ⟨_, #[], Heap.get?_push_size _ rfl, ⟨rfl, rfl, rfl⟩, rfl, rfl, fun _ he => by simp at he, List.nodup_nil⟩, rfl, VRs.nil, VRs.nil⟩
theorem or_newI (prog : Program) (w : World) (φ : List Addr) (h : Heap) : OR prog w φ (h.push { cls := .type "dict", data := .dict #[] }) h.objs.size (.idict [] 0) :=
  ⟨[], ⟨_, #[], Heap.get?_push_size _ rfl, ⟨rfl, rfl, rfl⟩, rfl, fun _ he => by simp at he, Pairs.nil, List.nodup_nil⟩, rfl, VRs.nil⟩

/-- dict(pairs) whose keys are tuples -/
theorem BC_dictT {items : List (List KA × PV)} (hlen : items.length ≤ 1000) {Q : PV → List PO → Prop} (q : ∀ ep, Q (.obj ps.length) (ps ++ [.tdict (putAll [] items) ep])) :
    BC C n (.type "dict") [.lst (items.map fun x => .tup [.tup (x.1.map KA.pv), x.2])] m ps Q := BC_dict (mk := PO.tdict) @dset_t or_newT hlen q
/-- dict(pairs) whose keys are ints -/
theorem BC_dictI {items : List (Int × PV)} (hlen : items.length ≤ 1000) {Q : PV → List PO → Prop} (q : ∀ ep, Q (.obj ps.length) (ps ++ [.idict (putAll [] items) ep])) :
    BC C n (.type "dict") [.lst (items.map fun x => .tup [.int x.1, x.2])] m ps Q := BC_dict (mk := PO.idict) @dset_i or_newI hlen q

/-! ## len of a dict -/
theorem BC_lenI {k : Nat} {es : List (Int × PV)} {ep : Nat} {Q : PV → List PO → Prop} (e : ps[k]? = some (.idict es ep)) (hl : es.length < 2 ^ 62) (q : Q (.int es.length) ps) : BC C n (.builtin "len") [.obj k] m ps Q := by
  intro A φ s vs R S hv
  obtain ⟨v, us, rfl, hv, hr⟩ := VRs.cons_inv hv
  rw [VRs.nil_inv hr]
  obtain ⟨a, kv, rfl, ha, hm, hd, hk, hr⟩ := S.idict hv e
  have hlen : kv.length = es.length := by simpa using congrArg List.length hk
  refine call_len_dict hm hd.dictOf (by omega) ?_
  rw [hlen]
  exact Post.now S _ vr_int q

/-! ## sorted -/
theorem kdl_obj {prog : Program} {w : World} {d : Addr} {od : Obj} {es : Array DictEntry} {ep : Nat} (lo : (d == sysModules) = false) (hc : od.ExactDict) (hd : od.data = .dict es ep) :
    KdlSrc prog w "dict" d d es.size (fun i v => ∃ e, es[i]? = some e ∧ v = e.key) (fun h => h.get? d = some od) where
  type := fun _ hm => ⟨od, hm, hc.1⟩
  there := fun _ hm => ⟨Heap.lt_size hm, Heap.lt_size hm⟩
  keep := fun _ _ hm hk => hk d (.inl rfl) _ hm
  notList := by decide
  notTuple := by decide
  hint := fun _ _ _ _ hm hq => kdl_hint_dict ⟨od, hm, hc.1⟩ hq
  iter := fun A s hh hm => ⟨kvItO "dict_keyiterator" d 0 es.size ep, fun i h => h.get? s.heap.objs.size = some (kvItO "dict_keyiterator" d i es.size ep) ∧ h.get? d = some od, fun _ _ hq => iter_dict lo hm hc.1 hd hq,
    { sub := fun b hb => by simp at hb; simp [hb]
      frame := fun i h h' st hk => ⟨hk _ (by simp) _ st.1, hk d (by simp) _ st.2⟩
      item := fun i s' Q E hi st hQ => by
        refine keyit_item st.1 st.2 hd (e := es[i]) (by simp [hi]) fun h' hit' hs => ?_
        refine hQ _ h' s'.toks ⟨es[i], by simp [hi], rfl⟩ ⟨hit', (hs.2 d (Nat.ne_of_lt (Heap.lt_size hm))).trans st.2⟩ fun b o hb e => hs.extBut b o (fun e' => hb (by simp [e'])) e
      done := fun s' Q E st hQ => keyit_end hh st.1 st.2 hd (by simp) fun h' hx => hQ h' s'.toks fun b o hb e => hx b o (fun e' => hb (by simp [e'])) e
      self := fun i s' Q E st hq => wpAny_pyIter_keyiter (i := i) (n := es.size) (ep := ep) (d := d) ⟨_, st.1, rfl, rfl⟩ hq },
    ⟨Heap.get?_push_size _ rfl, Heap.get?_push_of_some _ hm⟩⟩

theorem BC_sortedT {k : Nat} {es : List (List KA × PV)} {ep : Nat} {l : List (Int × Int)} {Q : PV → List PO → Prop} (e : ps[k]? = some (.tdict es ep)) (hes : es.map (fun e => PV.tup (e.1.map KA.pv)) = l.map pv2) (hnd : l.Nodup) (hb : ∀ x ∈ l, 0 ≤ x.2 ∧ x.2 < 4) (hl : l.length < 60)
    (q : ∀ l' : List (Int × Int), l'.Perm l → l'.Pairwise plt → Q (.lst (l'.map pv2)) ps) : BC C n (.builtin "sorted") [.obj k] m ps Q := by
  intro A φ s vs R S hv
  obtain ⟨v, us, rfl, hv, hr⟩ := VRs.cons_inv hv
  rw [VRs.nil_inv hr]
  obtain ⟨a, od, ents, rfl, hm, ho, hc, hd, hsz, h1, h2⟩ := S.g.dict (p := .obj k) hv (l := es.map fun e => (.tup (e.1.map KA.pv), e.2)) (ep := ep) (by simp [kvs, e]) (by simp [epOf, e])
  rw [List.map_map] at h1
  have h1' : VRs φ s.heap (l.map pv2) (ents.toList.map (·.key)) := by rw [← hes]; exact h1
  have hel : ents.size = l.length := by have := h1'.length; simpa using this
  refine Calls.call_function_entry kind_sorted plain_sorted entry_sorted (args_sorted1 _) ?_
  unfold Builtin.«sorted»
  refine wpAny_bind (m := checkCount "sorted" 1 1 _) (wpAny_pure ?_)
  refine wpAny_bind (kdu_collect (A := A.in1) (kdl_obj hm hc hd) (by exact R.1) ho (by rw [sizeLine_eq]; omega) fun h' tk acc hk hacc => ?_)
  have hal : acc.toList.length = l.length := by rw [Array.length_toList]; rw [hacc.1, hel]
  have hkeys : acc.toList = ents.toList.map (·.key) := by
    refine List.ext_getElem (by rw [hal, List.length_map]; simp [hel]) fun i hi1 hi2 => ?_
    obtain ⟨en, hen, hv⟩ := hacc.2 i acc.toList[i] (by rw [← Array.getElem?_toList, List.getElem?_eq_getElem hi1])
    rw [hv, List.getElem_map]
    rw [← Array.getElem?_toList] at hen
    have hi3 : i < ents.toList.length := by simpa using hi2
    rw [List.getElem?_eq_getElem hi3] at hen
    cases hen; rfl
  refine wpAny_bind (wpAny_newList ?_ (by rw [hal, sizeLine_eq]; omega))
  have keep : ∀ b o, s.heap.get? b = some o → (h'.push (seqObj "list" acc.toList.toArray 0)).get? b = some o := fun b o e => Heap.get?_push_of_some _ (hk b o e)
  have hnone : s.heap.get? h'.objs.size = none := by
    cases hq : s.heap.get? h'.objs.size with
    | none => rfl
    | some o => exact absurd (Heap.lt_size (hk _ _ hq)) (Nat.lt_irrefl _)
  refine wpAny_bind (wpAny_holding (wpAny_mono (sort_pairs (A := A.in1) S keep hnone (Heap.get?_push_size _ rfl) (by rw [hkeys]; exact h1') hnd hb hl q) (fun _ s' hp => wpAny_pure ⟨_, rfl, hp⟩) noE))
end Mine

namespace Mine
open PySem PySem.Calls PyProof.Rows PySem.W PySem.SeqAt PySem.Spec

variable {C : Ctx} {n : Nat} {φ φ' : List Addr} {m : List (Option PV)} {ps : List PO} {s : Shared} {h h' : Heap}

theorem lk_values_contains : typeLookup (.type "dict_values") "__contains__" = pure none := by rw [typeLookup_type, builtinLookup_eq_fast]; kernel_rfl
theorem entry_contains_iter : entryFor table "proto.contains_iter" = some Builtin.«proto.contains_iter» := entryFor_of_tree (by kernel_rfl)
theorem plain_contains_iter : plainId "proto.contains_iter" = true := by decide +kernel

section
variable {prog : Program} {w : World} {A : Around} {E : Value → Shared → Prop} {d v : Addr} {od : Obj} {es : Array DictEntry} {ep : Nat} {x : Int} {t : Tok}

theorem contains_loop (hh : A.handled = none) {I : Addr} (hdd : od.data = .dict es ep) {R : Result → Shared → Prop} (hid : I ≠ d) (l : List Int) (hl : l.length = es.size) (hes : ∀ i, i < es.size → ∃ e u, es[i]? = some e ∧ e.val = .int (l.getD i 0) u) {h0 : Heap} (hI0 : h0.get? I = none)
    (hR : ∀ h' t', (∀ b o, h0.get? b = some o → h'.get? b = some o) → R (.ok (.ret (.bool (l.contains x)))) { s with heap := h', toks := t' }) :
    ∀ (j i : Nat) (h1 : Heap) (t1 : Nat), j + i = es.size → (∀ b o, h0.get? b = some o → h1.get? b = some o) → h1.get? I = some (kvItO "dict_valueiterator" d i es.size ep) → h1.get? d = some od → (l.take i).contains x = false →
      codeAny (model prog w) A (.builtin "proto.contains_iter" ⟨[.ref I, .int x t], []⟩) R { s with heap := h1, toks := t1 } := by
  intro j
  induction j with
  | zero =>
    intro i h1 t1 hji hk hit hod hno
    refine codeAny_builtin entry_contains_iter ?_
    rw [Around.under_plainId plain_contains_iter _]
    show wpAny _ A.in1 (pyNext (.ref I) >>= _) _ _ _
    refine wpAny_bind (valit_end hh hit hod hdd (Array.getElem?_eq_none (by omega)) fun h' hx => ?_)
    refine wpAny_bind (wpAny_rule (wpAny_pure ?_))
    have : l.contains x = false := by rw [← List.take_of_length_le (l := l) (i := i) (by omega)]; exact hno
    have := hR h' t1 fun b o e => hx b o (fun e' => by rw [e', hI0] at e; cases e) (hk b o e)
    rw [‹l.contains x = false›] at this
    exact this
  | succ j ih =>
    intro i h1 t1 hji hk hit hod hno
    refine codeAny_builtin entry_contains_iter ?_
    rw [Around.under_plainId plain_contains_iter _]
    show wpAny _ A.in1 (pyNext (.ref I) >>= _) _ _ _
    obtain ⟨en, u, he, hv⟩ := hes i (by omega)
    refine wpAny_bind (valit_item hit hod hdd he fun h' hit' hs => ?_)
    rw [hv]
    have hk' : ∀ b o, h0.get? b = some o → h'.get? b = some o := fun b o e => hs.extBut b o (fun e' => by rw [e', hI0] at e; cases e) (hk b o e)
    refine wpAny_bind (wpAny_eqBool_int ?_)
    have hi : i < l.length := by omega
    have hg : l.getD i 0 = l[i] := by simp [List.getD_eq_getElem?_getD, hi]
    by_cases hx : l.getD i 0 = x
    · rw [if_pos (by simpa using hx)]
      refine wpAny_bind (wpAny_rule (wpAny_pure ?_))
      have hc : l.contains x = true := by
        rw [List.contains_iff_mem, ← hx, hg]; exact List.getElem_mem hi
      have := hR h' t1 hk'
      rw [hc] at this
      exact this
    · rw [if_neg (by simpa using hx)]
      refine wpAny_pure ⟨plainId_quiet plain_contains_iter _, ih (i + 1) h' t1 (by omega) hk' hit' ((hs.2 d (Ne.symm hid)).trans hod) ?_⟩
      rw [List.take_succ, List.getElem?_eq_getElem hi]
      simp only [Option.toList, List.contains_eq_any_beq, List.any_append, Bool.or_eq_false_iff] at hno ⊢
      refine ⟨hno, ?_⟩
      simp
      rw [← hg]; exact fun e => hx e.symm

theorem contains_values {Q : Bool → Shared → Prop} (hh : A.handled = none) (hv : s.heap.get? v = some { cls := .type "dict_values", data := .fields #[.ref d] }) (hod : s.heap.get? d = some od) (hdd : od.data = .dict es ep)
    (l : List Int) (hl : l.length = es.size) (hes : ∀ i, i < es.size → ∃ e u, es[i]? = some e ∧ e.val = .int (l.getD i 0) u)
    (hQ : ∀ h' t', (∀ b o, s.heap.get? b = some o → h'.get? b = some o) → Q (l.contains x) { s with heap := h', toks := t' }) : wpAny (model prog w) A (contains (.ref v) (.int x t)) Q E s := by
  have hT : s.TypeIs (.ref v) "dict_values" := ⟨_, hv, rfl⟩
  unfold contains
  refine wpAny_holding ?_
  rw [show stdlibNamesSay? (.ref v) (.int x t) = none from rfl]
  refine wpAny_bind (wpAny_specialOf hT lk_values_contains ?_)
  rw [if_neg (by decide)]
  refine wpAny_bind ?_
  unfold callSpecialUnlessNone?
  refine wpAny_bind (wpAny_specialOf hT lk_values_contains (wpAny_pure ?_))
  refine wpAny_bind (wpAny_rule (wpAny_bind (wpAny_tryCatch (iter_values hv hod hdd ?_))))
  have hI0 : s.heap.get? s.heap.objs.size = none := Heap.get?_none_of_le (Nat.le_refl _)
  refine wpAny_bind (wpAny_runValue ?_)
  exact contains_loop hh hdd (I := s.heap.objs.size) (Nat.ne_of_gt (Heap.lt_size hod)) l hl hes hI0 (fun h' t' hk => wpAny_pure (hQ h' t' hk)) es.size 0 _ s.toks (by omega) (fun b o e => Heap.get?_push_of_some _ e) (Heap.get?_push_size _ rfl)
    (Heap.get?_push_of_some _ hod) (by simp)
end

/-- a comparison `x not in d.values()` -/
theorem AB_notInValues {lx o : Expr} {name : Str} {apos cpos pos : Pos} {Q : Bool → List PO → Prop} (hname : name = "values")
    (hbase : attributeBase o name C.env (eval o C.env) = eval o C.env) (hline : (apos.endLine == cpos.line) = true)
    (h : AE C n lx m ps fun p ps₁ => AE C n o m ps₁ fun q ps₂ => ∃ (x : Int) (l : List (PV × PV)) (ep : Nat) (vs : List Int), p = .int x ∧ kvs ps₂ q = some l ∧ epOf ps₂ q = some ep ∧ l.map (·.2) = vs.map PV.int ∧ Q (!vs.contains x) ps₂)
    (hm : behindInMarks .NotIn (.Call (.Attribute o name apos) [] [] cpos) = false := by with_unfolding_all rfl) :
    AB C n (.Compare lx [.NotIn] [.Call (.Attribute o name apos) [] [] cpos] pos) m ps Q := by
  intro A φ s R S
  subst hname
  refine wpAny_isTrue_Compare1 (wpAny_mono (h A φ s R S) (fun u s₁ ⟨φ₁, p, ps₁, q₁, S₁, hu, x₁⟩ => ?_) noE) hm
  refine wpAny_Call_method0_late hbase hline (wpAny_mono (q₁ A φ₁ s₁ R S₁) (fun v s₂ ⟨φ₂, q, ps₂, ⟨x, l, ep, vs, hp, hk, he, hvs, hq⟩, S₂, hv, x₂⟩ => ?_) noE)
  subst hp
  obtain ⟨t, rfl⟩ := VR.int_inv hu
  obtain ⟨a, od, ents, rfl, hm', ho, hc, hd, hsz, h1, h2⟩ := S₂.g.dict hv hk he
  refine ⟨"dict", "dict.values", F.plainAttrs_dict, F.slot_dict_values, F.type_dict_values, ⟨_, ho, hc.1⟩, fun b e => by cases e; exact ⟨_, ho, hc.2.1⟩, ?_⟩
  refine callWith_builtin (args := []) rfl (PySem.evalArgs_none ?_)
  show wpAny _ _ (call (.builtin "dict.values") [.ref a]) _ _ _
  refine call_values hm' ho hc.1 ?_
  have ho' : (s₂.heap.push { cls := .type "dict_values", data := .fields #[.ref a] }).get? a = some od := Heap.get?_push_of_some _ ho
  have hlen : vs.length = ents.size := by have := congrArg List.length hvs; simp at this; omega
  show wpAny _ _ (contains _ _ >>= _) _ _ _
  refine wpAny_bind (contains_values (by exact R.1) (Heap.get?_push_size _ rfl) ho' hd vs hlen (fun i hi => ?_) fun h' t' hk' => wpAny_pure ?_)
  · rw [hvs] at h2
    obtain ⟨w, hw, hwr⟩ := h2.get (i := i) (p := .int (vs.getD i 0)) (by simp [List.getD_eq_getElem?_getD, show i < vs.length by omega])
    obtain ⟨u, rfl⟩ := VR.int_inv hwr
    rw [List.getElem?_map] at hw
    have hi' : i < ents.toList.length := by simpa using hi
    rw [List.getElem?_eq_getElem hi'] at hw
    refine ⟨ents[i], u, by simp [hi], ?_⟩
    simpa using hw
  · have hk2 : ∀ b o, s₂.heap.get? b = some o → h'.get? b = some o := fun b o e => hk' b o (Heap.get?_push_of_some _ e)
    exact wpAny_truthy_bool ⟨φ₂, ps₂, hq, S₂.keep t' hk2, (x₁.trans x₂).trans (Ext.ofKeep hk2)⟩
end Mine

namespace Mine
open PySem PySem.Calls PyProof.Rows PySem.W PySem.SeqAt PySem.Spec

def defOf (p : Program) (n : Str) : Arguments × List Stmt × Scope :=
  (p.main.body.findSome? fun st => match st with
    | .FunctionDef name args body _ _ _ scope _ _ _ => if name = n then some (args, body, scope) else none
    | _ => none).getD default

inductive FnThere (B : Base) (d : Arguments × List Stmt × Scope) (params : List Str) (dflt : List PV) (f : Addr) : Prop
  | mk (o : Obj) (name qual : Str) (dV kV doc pm : Value) (an : Option Addr) (cdv ct : Value) (ho : B.h0.get? f = some o) (hd : o.data = .func (fnOf name qual d.1 d.2.1 d.2.2 dV kV doc pm an cdv ct)) (hc : B.h0.CodeRec cdv qual)
    (hb : ∀ φ (s : Shared) vs, (∀ b o, B.h0.get? b = some o → s.heap.get? b = some o) → vs.length ≤ params.length → vs.length ≤ 4 → params.length ≤ vs.length + dflt.length →
      ∃ dv, BindsTo s (fnOf name qual d.1 d.2.1 d.2.2 dV kV doc pm an cdv ct) ⟨vs, []⟩ (params.zip (vs ++ dv)) ∧ VRs φ s.heap (dflt.drop (vs.length + dflt.length - params.length)) dv) : FnThere B d params dflt f
structure FnAt (B : Base) (x : Str) (d : Arguments × List Stmt × Scope) (params : List Str) (dflt : List PV) (f : Addr) : Prop where
  look : GLook B x (.ref f)
  there : FnThere B d params dflt f

theorem FnAt.call {B : Base} {x : Str} {d : Arguments × List Stmt × Scope} {params : List Str} {dflt : List PV} {f : Addr} {n : Nat} {ps : List PO} {args : List PV} {Q : PV → List PO → Prop} (H : FnAt B x d params dflt f)
    (hlim : B.h0.NoLimit) (hsc : scopeOk d.2.2 = true) (hn : params.Nodup) (hkind : (params.all fun y => d.2.2.names.lookup y == some .local || d.2.2.names.lookup y == some .cell) = true)
    (h1 : args.length ≤ params.length) (h2 : params.length ≤ args.length + dflt.length) (m₀ : List (Option PV))
    (hm : ∀ L, initM (layout d.2.2 L) params (args ++ dflt.drop (args.length + dflt.length - params.length)) = m₀)
    (h : ∀ name qual dV kV doc pm an cdv ct L, ASs (callCtx B (fnOf name qual d.1 d.2.1 d.2.2 dV kV doc pm an cdv ct) L f) n d.2.1 m₀ ps fun a _ ps' => match a with | .ret p => Q p ps' | _ => Q .none ps') (h4 : args.length ≤ 4 := by simp) :
    FC B (n + 1) f args ps Q := by
  obtain ⟨o, name, qual, dV, kV, doc, pm, an, cdv, ct, ho, hd, hc, hb⟩ := H.there
  refine FC_def (names := params) (pvals := args ++ dflt.drop (args.length + dflt.length - params.length)) ho hd hlim hc rfl rfl rfl rfl hsc hn ?_ hkind (fun φ s vs hk hv => ?_) (fun L => by rw [show (fnOf name qual d.1 d.2.1 d.2.2 dV kV doc pm an cdv ct).scope = d.2.2 from rfl, hm L]; exact h _ _ _ _ _ _ _ _ _ L)
  · simp; omega
  · have hl := hv.length
    obtain ⟨dv, hB, hd⟩ := hb φ s vs hk (by omega) (by omega) (by omega)
    rw [hl] at hd
    exact ⟨vs ++ dv, hB, hv.append hd⟩

theorem FnAt.fd {B : Base} {x : Str} {d : Arguments × List Stmt × Scope} {params : List Str} {dflt : List PV} {f : Addr} (H : FnAt B x d params dflt f) : ∃ o fd, B.h0.get? f = some o ∧ o.data = .func fd :=
  let ⟨o, _, _, _, _, _, _, _, _, _, ho, hd, _, _⟩ := H.there; ⟨o, _, ho, hd⟩

/-- a call of a known def -/
theorem AE_fn {C : Ctx} {x y : Str} {d : Arguments × List Stmt × Scope} {params : List Str} {dflt : List PV} {f : Addr} {n : Nat} {m : List (Option PV)} {ps : List PO} {px pos : Pos} {e : Expr} {es : List Expr} {Q : PV → List PO → Prop} (H : FnAt C.toBase y d params dflt f) (hxy : x = y)
    (hk : C.env.kindOf x = some .globalImplicit) (h : AL C n (e :: es) m ps fun l ps₁ => FC C.toBase n f l ps₁ Q)
    (hx : (x == ("__debug__" : Str)) = false := by decide) (he : starEach (e :: es) C.env = (false, eval e C.env) :: starEach es C.env := by rfl) : AE C n (.Call (.Name x px) (e :: es) [] pos) m ps Q := by
  subst hxy
  obtain ⟨o, fd, ho, hd⟩ := H.fd
  exact AE_call_def hk H.look ho hd h hx he

theorem AB_val {C : Ctx} {n : Nat} {m : List (Option PV)} {ps : List PO} {e : Expr} {Q : Bool → List PO → Prop} (h : AE C n e m ps fun p ps₁ => ∃ b, p = .bool b ∧ Q b ps₁)
    (he : isTrue e C.env (eval e C.env) = (do let v ← eval e C.env; standAt e.pos; holding [v] (truthy v)) := by rfl) : AB C n e m ps Q := by
  intro A φ s R S
  refine wpAny_isTrue_value (wpAny_mono (h A φ s R S) (fun v s₁ ⟨φ₁, p, ps₁, ⟨b, hp, q⟩, S₁, hv, x₁⟩ => ?_) noE) he
  subst hp
  rw [VR.bool_inv hv]
  exact wpAny_truthy_bool ⟨φ₁, ps₁, q, S₁, x₁⟩

theorem AE_name' {C : Ctx} {n : Nat} {m : List (Option PV)} {ps : List PO} {x : Str} {pos : Pos} {p : PV} {Q : PV → List PO → Prop} (hd : (x == ("__debug__" : Str)) = false) (hc : (x == ("__classdict__" : Str)) = false) (hv : lk C m x = some p) (q : Q p ps) : AE C n (.Name x pos) m ps Q := AE_name hv q hd hc
theorem AS_assign' {C : Ctx} {n : Nat} {m : List (Option PV)} {ps : List PO} {x : Str} {p' pos : Pos} {e : Expr} {Q : AF → List (Option PV) → List PO → Prop} {y : Str × Slot} (hs : swapsWith e (some (.Name x p')) pos.line C.env = pure false) (hy : slotAt C x = some y) (hw : ∀ c, y.2 ≠ .cap c)
    (h : AE C n e m ps fun p ps₁ => Q .next (upd C m x p) ps₁) : AS C n (.Assign [.Name x p'] e pos) m ps Q := AS_assign hs hy h hw
theorem AL_cons' {C : Ctx} {n : Nat} {m : List (Option PV)} {ps : List PO} {e : Expr} {es : List Expr} {Q : List PV → List PO → Prop} (he : starEach (e :: es) C.env = (false, eval e C.env) :: starEach es C.env) (h : AE C n e m ps fun p ps₁ => AL C n es m ps₁ fun l ps₂ => Q (p :: l) ps₂) : AL C n (e :: es) m ps Q := AL_cons h he
local macro_rules | `(tactic| walk_at "m") => `(tactic| first
  | ((with_reducible refine AE_name' (p := ?_) ?_ ?_ ?_ ?_); rotate_left; rfl; rfl; rfl)
  | with_reducible refine AE_int ?_
  | with_reducible refine AE_none ?_
  | with_reducible refine AE_bool ?_
  | with_reducible refine AE_str ?_
  | with_reducible refine AB_compare ?_
  | with_reducible refine AE_binop ?_
  | with_reducible refine AO_add ?_
  | with_reducible refine AO_sub ?_
  | with_reducible refine AO_lt ?_
  | with_reducible refine AO_le ?_
  | with_reducible refine AO_gt ?_
  | with_reducible refine AO_eq ?_
  | with_reducible refine AO_ne ?_
  | with_reducible refine AO_isNone ?_
  | with_reducible refine AO_isNotNone ?_
  | with_reducible refine AE_sub ?_
  | with_reducible refine AL_nil ?_
  | with_reducible refine ASs_nil ?_
  | with_reducible refine ASs_cons ?_
  | with_reducible refine AS_return ?_
  | ((with_reducible refine AL_cons' ?_ ?_); rfl)
  | ((with_reducible refine AS_assign' (y := ?_) ?_ ?_ ?_ ?_); rotate_left; rfl; rfl; (intro c h; cases h)))

theorem fdiv_two (a b : Nat) : ((a : Int) + b).fdiv 2 = ((a + b) / 2 : Nat) := by
  rw [Int.fdiv_eq_ediv_of_nonneg _ (by decide)]; omega

/-! ## bisect -/
set_option maxHeartbeats 2000000 in
theorem bisect_body {B : Base} {f : Addr} {n : Nat} {ps : List PO} {k : PV} {l : List (Int × Int)} {x : Int × Int} {p : Nat} {Q : PV → List PO → Prop}
    (hL : GLook B "len" (.builtin "len")) (hc : contents ps k = some (l.map pv2)) (hsz : l.length < 1000) (hp : p ≤ l.length) (hlt : ∀ i y, l[i]? = some y → (plt y x ↔ i < p)) (hQ : Q (.int p) ps) (name qual dV kV doc pm an cdv ct L) :
    ASs (callCtx B (fnOf name qual (defOf PySem.Challenge.pw_ia0003_01 "bisect_left").1 (defOf PySem.Challenge.pw_ia0003_01 "bisect_left").2.1 (defOf PySem.Challenge.pw_ia0003_01 "bisect_left").2.2 dV kV doc pm an cdv ct) L f) n (defOf PySem.Challenge.pw_ia0003_01 "bisect_left").2.1
      [some k, some (pv2 x), some (.int 0), some .none, some .none, none] ps fun a _ ps' => match a with | .ret p => Q p ps' | _ => Q .none ps' := by
  conv => arg 3; whnf
  refine ASs_cons (AS_if_f ?_)
  (repeat walk_at "m")
  refine ⟨_, rfl, by decide, ?_⟩
  (repeat walk_at "m")
  refine AS_if_t ?_
  (repeat walk_at "m")
  refine ⟨_, rfl, rfl, ?_⟩
  (repeat walk_at "m")
  refine AE_call_builtin rfl hL ?_
  (repeat walk_at "m")
  refine BC_len hc (by simp; omega) ?_
  (repeat walk_at "m")
  refine AS_if_t ?_
  (repeat walk_at "m")
  refine ⟨_, rfl, rfl, ?_⟩
  refine ASs_cons (AS_while (fun j m' ps' => ∃ lo hi : Nat, ∃ mv, ps' = ps ∧ m' = [some k, some (pv2 x), some (.int lo), some (.int hi), some .none, mv] ∧ lo ≤ p ∧ p ≤ hi ∧ hi ≤ l.length ∧ j = hi - lo) l.length ?_ ?_)
  · refine ⟨0, l.length, none, rfl, ?_, Nat.zero_le _, hp, Nat.le_refl _, rfl⟩
    simp [upd]
    rfl
  · rintro j m' ps' ⟨lo, hi, mv, rfl, rfl, h1, h2, h3, rfl⟩
    (repeat walk_at "m")
    refine ⟨_, rfl, fun h => ?_, fun h => ?_⟩
    · have : lo = p := by simp at h; omega
      subst this
      (repeat walk_at "m")
      exact hQ
    · have hlh : lo < hi := by simpa using h
      (repeat walk_at "m")
      refine AO_div (by decide) (PyProof.noPylong_small (by decide)) ?_
      rw [fdiv_two]
      have hml : (lo + hi) / 2 < l.length := by omega
      have hm1 : lo ≤ (lo + hi) / 2 := by omega
      have hm2 : (lo + hi) / 2 < hi := by omega
      generalize (lo + hi) / 2 = mid at hml hm1 hm2
      have hmid := hlt mid l[mid] (by simp [hml])
      (repeat walk_at "m")
      refine AS_if ?_
      (repeat walk_at "m")
      refine AItem_list hc (by omega) (by omega) (x := pv2 l[mid]) (by simp [hml]) ?_
      (repeat walk_at "m")
      refine AO_lt2 ?_
      refine ⟨_, rfl, fun h => ?_, fun h => ?_⟩
      · have hpl : plt l[mid] x := by unfold plt; exact of_decide_eq_true h
        have := hmid.mp hpl
        (repeat walk_at "m")
        exact ⟨hi - (mid + 1), by omega, mid + 1, hi, _, rfl, rfl, by omega, h2, h3, rfl⟩
      · have hpl : ¬ plt l[mid] x := by unfold plt; exact of_decide_eq_false h
        have : ¬ mid < p := fun h => hpl (hmid.mpr h)
        (repeat walk_at "m")
        exact ⟨mid - lo, by omega, lo, mid, _, rfl, rfl, h1, by omega, by omega, rfl⟩

abbrev bisectP : List Str := ["a", "x", "lo", "hi", "key"]
abbrev bisectD : List PV := [.int 0, .none, .none]
section
variable {P : Program} (hP : P = PySem.Challenge.pw_ia0003_01) {B : Base} {f : Addr} {n : Nat} {ps : List PO} {k : PV} {l : List (Int × Int)} {x : Int × Int} {p : Nat} {Q : PV → List PO → Prop} (H : FnAt B "bisect_left" (defOf P "bisect_left") bisectP bisectD f)
    (hL : GLook B "len" (.builtin "len")) (hlim : B.h0.NoLimit) (hc : contents ps k = some (l.map pv2)) (hsz : l.length < 1000) (hp : p ≤ l.length) (hlt : ∀ i y, l[i]? = some y → (plt y x ↔ i < p)) (hQ : Q (.int p) ps)
include hP H hL hlim hc hsz hp hlt hQ
theorem bisect_2 : FC B (n + 1) f [k, pv2 x] ps Q := by
  subst hP
  exact FnAt.call H hlim (by decide +kernel) (by decide +kernel) (by decide +kernel) (by exact (by decide : 2 ≤ 5)) (by exact (by decide : 5 ≤ 2 + 3)) [some k, some (pv2 x), some (.int 0), some .none, some .none, none] (fun _ => rfl) (bisect_body hL hc hsz hp hlt hQ)
theorem bisect_4 : FC B (n + 1) f [k, pv2 x, .int 0, .none] ps Q := by
  subst hP
  exact FnAt.call H hlim (by decide +kernel) (by decide +kernel) (by decide +kernel) (by exact (by decide : 4 ≤ 5)) (by exact (by decide : 5 ≤ 4 + 3)) [some k, some (pv2 x), some (.int 0), some .none, some .none, none] (fun _ => rfl) (bisect_body hL hc hsz hp hlt hQ)
end

set_option maxHeartbeats 2000000 in
theorem insort_ok {P : Program} (hP : P = PySem.Challenge.pw_ia0003_01) {B : Base} {f g : Addr} {n : Nat} {ps : List PO} {k : Nat} {l : List (Int × Int)} {x : Int × Int} {p : Nat} {Q : PV → List PO → Prop} (H : FnAt B "bisect_left" (defOf P "bisect_left") bisectP bisectD f)
    (H' : FnAt B "insort_left" (defOf P "insort_left") bisectP bisectD g)
    (hL : GLook B "len" (.builtin "len")) (hlim : B.h0.NoLimit) (hk : ps[k]? = some (.list (l.map pv2))) (hsz : l.length < 1000) (hp : p ≤ l.length) (hlt : ∀ i y, l[i]? = some y → (plt y x ↔ i < p))
    (hQ : Q .none (ps.set k (.list ((l.take p ++ x :: l.drop p).map pv2)))) : FC B (n + 2) g [.obj k, pv2 x] ps Q := by
  subst hP
  have hc : contents ps (.obj k) = some (l.map pv2) := by simp [contents, hk]
  refine FnAt.call H' hlim (by decide +kernel) (by decide +kernel) (by decide +kernel) (by exact (by decide : 2 ≤ 5)) (by exact (by decide : 5 ≤ 2 + 3)) [some (.obj k), some (pv2 x), some (.int 0), some .none, some .none] (fun _ => rfl) fun name qual dV kV doc pm an cdv ct L => ?_
  conv => arg 3; whnf
  refine ASs_cons (AS_if_t ?_)
  (repeat walk_at "m")
  refine ⟨_, rfl, rfl, ?_⟩
  (repeat walk_at "m")
  refine AE_fn H rfl rfl ?_
  (repeat walk_at "m")
  refine bisect_4 rfl H hL hlim hc hsz hp hlt ?_
  (repeat walk_at "m")
  refine AS_expr (AE_meth F.plainAttrs_list F.slot_list_insert F.type_list_insert ?_ rfl rfl rfl) rfl
  (repeat walk_at "m")
  refine ⟨by simp [typeName, hk], ?_⟩
  (repeat walk_at "m")
  refine BC_insert hk (by simp; omega) (i := p) (by omega) (by omega) (by simp; omega) ?_
  refine ⟨.inl rfl, ?_⟩
  (repeat walk_at "m")
  rw [← List.map_take, ← List.map_drop, ← List.map_cons, ← List.map_append]
  exact hQ


/-! # law 01, plainly -/
def getI (T : List (Int × Int)) (k : Int) : Option Int := (T.find? fun e => decide (e.1 = k)).map (·.2)
def putI (T : List (Int × Int)) (k v : Int) : List (Int × Int) := if T.any (fun e => decide (e.1 = k)) then T.map (fun e => if e.1 = k then (e.1, v) else e) else T ++ [(k, v)]
def idm (T : List (Int × Int)) : List (Int × PV) := T.map fun e => (e.1, PV.int e.2)

theorem kget_idm (T : List (Int × Int)) (k : Int) : kget (idm T) k = (getI T k).map PV.int := by
  induction T with
  | nil => rfl
  | cons e T ih =>
    unfold kget getI idm at ih ⊢
    simp only [List.map_cons, List.find?_cons]
    by_cases h : e.1 = k
    · simp [h]
    · simp [h] at ih ⊢; exact ih
theorem any_idm (T : List (Int × Int)) (k : Int) : (idm T).any (fun e => decide (e.1 = k)) = T.any (fun e => decide (e.1 = k)) := by
  unfold idm; rw [List.any_map]; rfl
theorem kput_idm (T : List (Int × Int)) (k v : Int) : kput (idm T) k (.int v) = idm (putI T k v) := by
  unfold kput putI
  rw [any_idm]
  split
  · unfold idm
    rw [List.map_map, List.map_map]
    refine List.map_congr_left fun e _ => ?_
    show (if e.1 = k then (e.1, PV.int v) else (e.1, PV.int e.2)) = ((if e.1 = k then (e.1, v) else e).1, PV.int (if e.1 = k then (e.1, v) else e).2)
    split <;> rfl
  · unfold idm; rw [List.map_append]; rfl
theorem idm_length (T : List (Int × Int)) : (idm T).length = T.length := by simp [idm]

theorem getI_isSome (T : List (Int × Int)) (k : Int) : (getI T k).isSome = T.any (fun e => decide (e.1 = k)) := by
  unfold getI
  rw [Option.isSome_map]
  exact find_any _ _
theorem getI_put (T : List (Int × Int)) (k v j : Int) : getI (putI T k v) j = if j = k then some v else getI T j := by
  unfold putI
  by_cases ha : T.any (fun e => decide (e.1 = k)) = true
  · rw [if_pos ha]
    induction T with
    | nil => simp at ha
    | cons e T ih =>
      unfold getI at ih ⊢
      simp only [List.map_cons, List.find?_cons]
      by_cases he : e.1 = k
      · simp only [he, if_true]
        by_cases hj : j = k
        · subst hj; simp
        · have hkj : ¬ k = j := fun e => hj e.symm
          simp only [hj, hkj, if_false, decide_false]
          -- the rest
          have : ∀ T : List (Int × Int), (T.map fun e => if e.1 = k then (e.1, v) else e).find? (fun e => decide (e.1 = j)) = T.find? (fun e => decide (e.1 = j)) := by
            intro T
            induction T with
            | nil => rfl
            | cons f T ih2 =>
              simp only [List.map_cons, List.find?_cons]
              by_cases hf : f.1 = k
              · simp only [hf, if_true, hkj, decide_false]; exact ih2
              · simp only [hf, if_false]; rw [ih2]
          rw [this]
      · simp only [he, if_false]
        have ha' : T.any (fun e => decide (e.1 = k)) = true := by simpa [he] using ha
        by_cases hej : e.1 = j
        · have : ¬ j = k := fun e' => he (hej.trans e')
          simp [hej, this]
        · simp only [hej, decide_false]
          exact ih ha'
  · rw [if_neg ha]
    have hnone : getI T k = none := by
      have := getI_isSome T k
      rw [Bool.not_eq_true _ |>.mp ha] at this
      simpa using this
    unfold getI at hnone ⊢
    rw [List.find?_append]
    by_cases hj : j = k
    · subst hj
      have : T.find? (fun e => decide (e.1 = j)) = none := by simpa using hnone
      simp [this]
    · have hkj : ¬ k = j := fun e => hj e.symm
      simp [hj, hkj]

abbrev C4 : List Int := [0, 1, 2, 3]
def unseen (S : List Int) : Nat := (C4.filter fun o => !decide (o ∈ S)).length
def miss (T : List (Int × Int)) : Nat := (C4.filter fun o => (getI T o).isNone).length

def cols (rec : Int → List (Int × Int) → List Int → Bool × List (Int × Int) × List Int) (ties : List (Int × Int)) (one : Int) : List Int → List (Int × Int) → List Int → Bool × List (Int × Int) × List Int
  | [], T, S => (false, T, S)
  | o :: r, T, S => if (one, o) ∈ ties ∧ o ∉ S then
      match getI T o with
      | none => (true, putI T o one, S ++ [o])
      | some w => match rec w T (S ++ [o]) with
        | (true, T', S') => (true, putI T' o one, S')
        | (false, T', S') => cols rec ties one r T' S'
    else cols rec ties one r T S
def free (ties : List (Int × Int)) : Nat → Int → List (Int × Int) → List Int → Bool × List (Int × Int) × List Int
  | 0 => fun _ T S => (false, T, S)
  | k + 1 => fun one T S => cols (free ties k) ties one C4 T S

theorem filter_length_mono {α : Type} {p q : α → Bool} : ∀ (l : List α), (∀ x ∈ l, p x = true → q x = true) → (l.filter p).length ≤ (l.filter q).length
  | [], _ => Nat.le_refl _
  | x :: l, h => by
    have ih := filter_length_mono l fun y hy => h y (.tail _ hy)
    rw [List.filter_cons, List.filter_cons]
    by_cases hp : p x = true
    · rw [if_pos hp, if_pos (h x (.head _) hp)]; simpa using ih
    · rw [if_neg hp]; split
      · simp only [List.length_cons]; omega
      · exact ih
theorem filter_length_lt {α : Type} {p q : α → Bool} : ∀ (l : List α), (∀ x ∈ l, p x = true → q x = true) → (∃ x ∈ l, p x = false ∧ q x = true) → (l.filter p).length < (l.filter q).length
  | [], _, h => by obtain ⟨x, hx, _⟩ := h; cases hx
  | x :: l, h, ⟨y, hy, h1, h2⟩ => by
    rw [List.filter_cons, List.filter_cons]
    rcases List.mem_cons.mp hy with rfl | hy
    · rw [if_neg (by rw [h1]; decide), if_pos h2]
      have := filter_length_mono l fun z hz => h z (.tail _ hz)
      simp only [List.length_cons]; omega
    · have ih := filter_length_lt l (fun z hz => h z (.tail _ hz)) ⟨y, hy, h1, h2⟩
      by_cases hp : p x = true
      · rw [if_pos hp, if_pos (h x (.head _) hp)]; simpa using ih
      · rw [if_neg hp]; split
        · simp only [List.length_cons]; omega
        · exact ih

theorem unseen_mono {S S' : List Int} (h : ∀ x ∈ S, x ∈ S') : unseen S' ≤ unseen S :=
  filter_length_mono _ fun x _ hx => by
    simp only [Bool.not_eq_true', decide_eq_false_iff_not] at hx ⊢
    exact fun hm => hx (h x hm)
theorem unseen_add {S : List Int} {o : Int} (ho : o ∈ C4) (hn : o ∉ S) : unseen (S ++ [o]) < unseen S :=
  filter_length_lt _ (fun x _ hx => by
    simp only [Bool.not_eq_true', decide_eq_false_iff_not, List.mem_append, List.mem_singleton] at hx ⊢
    exact fun hm => hx (.inl hm)) ⟨o, ho, by simp, by simpa using hn⟩
theorem miss_put {T : List (Int × Int)} {o v : Int} (ho : o ∈ C4) : (putI T o v).length + miss (putI T o v) ≤ T.length + miss T := by
  by_cases ha : T.any (fun e => decide (e.1 = o)) = true
  · have hl : (putI T o v).length = T.length := by unfold putI; rw [if_pos ha]; simp
    have hm : miss (putI T o v) ≤ miss T := filter_length_mono _ fun x _ hx => by
      rw [getI_put] at hx
      split at hx
      · cases hx
      · exact hx
    omega
  · have hl : (putI T o v).length = T.length + 1 := by unfold putI; rw [if_neg ha]; simp
    have hm : miss (putI T o v) < miss T := filter_length_lt _ (fun x _ hx => by
      rw [getI_put] at hx
      split at hx
      · cases hx
      · exact hx) ⟨o, ho, by rw [getI_put, if_pos rfl]; rfl, by
        have := getI_isSome T o
        rw [Bool.not_eq_true _ |>.mp ha] at this
        cases hg : getI T o with
        | none => rfl
        | some x => rw [hg] at this; cases this⟩
    omega

theorem cols_sub {rec : Int → List (Int × Int) → List Int → Bool × List (Int × Int) × List Int} {ties : List (Int × Int)} {one : Int} (hr : ∀ w T S, ∀ x ∈ S, x ∈ (rec w T S).2.2) : ∀ l T S, ∀ x ∈ S, x ∈ (cols rec ties one l T S).2.2
  | [], T, S, x, hx => hx
  | o :: r, T, S, x, hx => by
    unfold cols
    split
    · cases hg : getI T o with
      | none => simp only; exact List.mem_append_left _ hx
      | some w =>
        simp only
        have h1 := hr w T (S ++ [o]) x (List.mem_append_left _ hx)
        match hq : rec w T (S ++ [o]) with
        | (true, T', S') => rw [hq] at h1; exact h1
        | (false, T', S') => rw [hq] at h1; exact cols_sub hr r T' S' x h1
    · exact cols_sub hr r T S x hx
theorem free_sub (ties : List (Int × Int)) : ∀ k w T S, ∀ x ∈ S, x ∈ (free ties k w T S).2.2
  | 0, w, T, S, x, hx => hx
  | k + 1, w, T, S, x, hx => cols_sub (free_sub ties k) C4 T S x hx
theorem cols_wf {rec : Int → List (Int × Int) → List Int → Bool × List (Int × Int) × List Int} {ties : List (Int × Int)} {one : Int} (hr : ∀ w T S, (rec w T S).2.1.length + miss (rec w T S).2.1 ≤ T.length + miss T) :
    ∀ l T S, (∀ x ∈ l, x ∈ C4) → (cols rec ties one l T S).2.1.length + miss (cols rec ties one l T S).2.1 ≤ T.length + miss T
  | [], T, S, _ => Nat.le_refl _
  | o :: r, T, S, hl => by
    unfold cols
    split
    · cases hg : getI T o with
      | none => simp only; exact miss_put (hl o (.head _))
      | some w =>
        simp only
        have h1 := hr w T (S ++ [o])
        match hq : rec w T (S ++ [o]) with
        | (true, T', S') => rw [hq] at h1; exact Nat.le_trans (miss_put (hl o (.head _))) h1
        | (false, T', S') => rw [hq] at h1; exact Nat.le_trans (cols_wf hr r T' S' fun x hx => hl x (.tail _ hx)) h1
    · exact cols_wf hr r T S fun x hx => hl x (.tail _ hx)
theorem free_wf (ties : List (Int × Int)) : ∀ k w T S, (free ties k w T S).2.1.length + miss (free ties k w T S).2.1 ≤ T.length + miss T
  | 0, w, T, S => Nat.le_refl _
  | k + 1, w, T, S => cols_wf (free_wf ties k) C4 T S fun x hx => hx
theorem cols_len {rec : Int → List (Int × Int) → List Int → Bool × List (Int × Int) × List Int} {ties : List (Int × Int)} {one : Int} (hr : ∀ w T S, (rec w T S).2.2.length + unseen (rec w T S).2.2 ≤ S.length + unseen S) :
    ∀ l T S, (∀ x ∈ l, x ∈ C4) → (cols rec ties one l T S).2.2.length + unseen (cols rec ties one l T S).2.2 ≤ S.length + unseen S
  | [], T, S, _ => Nat.le_refl _
  | o :: r, T, S, hl => by
    unfold cols
    split
    · rename_i hcond
      have h0 := unseen_add (hl o (.head _)) hcond.2
      have h2 : (S ++ [o]).length + unseen (S ++ [o]) ≤ S.length + unseen S := by rw [List.length_append]; simp only [List.length_singleton]; omega
      cases hg : getI T o with
      | none => simp only; exact h2
      | some w =>
        simp only
        have h1 := hr w T (S ++ [o])
        match hq : rec w T (S ++ [o]) with
        | (true, T', S') => rw [hq] at h1; exact Nat.le_trans h1 h2
        | (false, T', S') => rw [hq] at h1; exact Nat.le_trans (cols_len hr r T' S' fun x hx => hl x (.tail _ hx)) (Nat.le_trans h1 h2)
    · exact cols_len hr r T S fun x hx => hl x (.tail _ hx)
theorem free_len (ties : List (Int × Int)) : ∀ k w T S, (free ties k w T S).2.2.length + unseen (free ties k w T S).2.2 ≤ S.length + unseen S
  | 0, w, T, S => Nat.le_refl _
  | k + 1, w, T, S => cols_len (free_len ties k) C4 T S fun x hx => hx
def apartTo (ties : List (Int × Int)) (n : Nat) : List (Int × Int) := (C4.take n).foldl (fun T one => (free ties 5 one T []).2.1) []
def apart (ties : List (Int × Int)) : List (Int × Int) := apartTo ties 4
theorem apartTo_succ (ties : List (Int × Int)) : ∀ i : Nat, i < 4 → apartTo ties (i + 1) = (free ties 5 (i : Int) (apartTo ties i) []).2.1
  | 0, _ => rfl
  | 1, _ => rfl
  | 2, _ => rfl
  | 3, _ => rfl
theorem apartTo_wf (ties : List (Int × Int)) : ∀ i : Nat, i ≤ 4 → (apartTo ties i).length + miss (apartTo ties i) ≤ 4
  | 0, _ => (by decide : ([] : List (Int × Int)).length + miss [] ≤ 4)
  | i + 1, h => by
    rw [apartTo_succ ties i (by omega)]
    exact Nat.le_trans (free_wf ties 5 _ _ _) (apartTo_wf ties i (by omega))




theorem contents_eq {ps : List PO} {k : Nat} {l : List PV} (h : ps[k]? = some (.list l)) : contents ps (.obj k) = some l := by simp [contents, h]

theorem set_same {ps : List PO} {a : Nat} {X : PO} (h : ps[a]? = some X) : ps.set a X = ps := by
  refine List.ext_getElem? fun i => ?_
  rw [List.getElem?_set]
  split
  · rename_i e
    subst e
    split
    · exact h.symm
    · rename_i hlt
      exact (List.getElem?_eq_none (by omega)).symm
  · rfl
theorem drop4 : ∀ i : Nat, i < 4 → C4.drop i = (i : Int) :: C4.drop (i + 1)
  | 0, _ => rfl
  | 1, _ => rfl
  | 2, _ => rfl
  | 3, _ => rfl
theorem mem4 : ∀ i : Nat, i < 4 → (i : Int) ∈ C4
  | 0, _ => by decide
  | 1, _ => by decide
  | 2, _ => by decide
  | 3, _ => by decide
def F2 (ps : List PO) (a b : Nat) (T : List (Int × Int)) (S : List Int) (ep : Nat) : List PO := (ps.set a (.idict (idm T) ep)).set b (.list (S.map .int))

set_option maxHeartbeats 4000000 in
theorem free_step {B : Base} {f : Addr} (H : FnAt B "_law_free" (defOf PySem.Challenge.pw_ia0003_01 "_law_free") ["ties", "one", "taken", "seen"] [] f) (hRg : GLook B "range" (.type "range")) (hlim : B.h0.NoLimit)
    {ties : List (Int × Int)} {pt : PV} {a b : Nat} (hab : a ≠ b) (k : Nat)
    (hrec : ∀ (one : Int) (T : List (Int × Int)) (S : List Int) (ep : Nat) (ps : List PO) (Q : PV → List PO → Prop), unseen S + 1 ≤ k → S.length + unseen S ≤ 4 → T.length + miss T ≤ 4 →
      ps[a]? = some (.idict (idm T) ep) → ps[b]? = some (.list (S.map .int)) → (∀ X Y, contents ((ps.set a X).set b Y) pt = some (ties.map pv2)) →
      (∀ ep', Q (.bool (free ties k one T S).1) (F2 ps a b (free ties k one T S).2.1 (free ties k one T S).2.2 ep')) → FC B k f [pt, .int one, .obj a, .obj b] ps Q)
    (one : Int) (T : List (Int × Int)) (S : List Int) (ep : Nat) (ps : List PO) (Q : PV → List PO → Prop) (hu : unseen S ≤ k) (hS : S.length + unseen S ≤ 4) (hT : T.length + miss T ≤ 4)
    (ha : ps[a]? = some (.idict (idm T) ep)) (hb : ps[b]? = some (.list (S.map .int))) (ht : ∀ X Y, contents ((ps.set a X).set b Y) pt = some (ties.map pv2))
    (hQ : ∀ ep', Q (.bool (free ties (k + 1) one T S).1) (F2 ps a b (free ties (k + 1) one T S).2.1 (free ties (k + 1) one T S).2.2 ep')) : FC B (k + 1) f [pt, .int one, .obj a, .obj b] ps Q := by
  have hla : a < ps.length := (List.getElem?_eq_some_iff.mp ha).1
  have hlb : b < ps.length := (List.getElem?_eq_some_iff.mp hb).1
  have hA : ∀ T S ep, (F2 ps a b T S ep)[a]? = some (.idict (idm T) ep) := fun T S ep => by unfold F2; simp [hab.symm, hla]
  have hB : ∀ T S ep, (F2 ps a b T S ep)[b]? = some (.list (S.map .int)) := fun T S ep => by unfold F2; simp [hlb]
  have hC : ∀ T S ep, contents (F2 ps a b T S ep) pt = some (ties.map pv2) := fun T S ep => ht _ _
  have hsA : ∀ T S ep T2 ep2, (F2 ps a b T S ep).set a (.idict (idm T2) ep2) = F2 ps a b T2 S ep2 := fun T S ep T2 ep2 => by
    unfold F2; rw [List.set_comm _ _ hab.symm, List.set_set]
  have hsB : ∀ T S ep S2, (F2 ps a b T S ep).set b (.list (S2.map .int)) = F2 ps a b T S2 ep := fun T S ep S2 => by unfold F2; rw [List.set_set]
  have hF : ∀ T S ep T2 S2 ep2, F2 (F2 ps a b T S ep) a b T2 S2 ep2 = F2 ps a b T2 S2 ep2 := fun T S ep T2 S2 ep2 => by
    rw [show F2 (F2 ps a b T S ep) a b T2 S2 ep2 = ((F2 ps a b T S ep).set a (.idict (idm T2) ep2)).set b (.list (S2.map .int)) from rfl, hsA, hsB]
  have h0 : ps = F2 ps a b T S ep := by unfold F2; rw [set_same ha, set_same hb]
  refine FnAt.call H hlim (by decide +kernel) (by decide +kernel) (by decide +kernel) (by exact (by decide : 4 ≤ 4)) (by exact (by decide : 4 ≤ 4 + 0)) [some pt, some (.int one), some (.obj a), some (.obj b), none] (fun _ => rfl) fun name qual dV kV doc pm an cdv ct L => ?_
  conv => arg 3; whnf
  refine ASs_cons ?_
  refine AS_for (fun i m' ps' => ∃ T' S' ep' mv, i ≤ 4 ∧ ps' = F2 ps a b T' S' ep' ∧ m' = [some pt, some (.int one), some (.obj a), some (.obj b), mv] ∧
    cols (free ties k) ties one (C4.drop i) T' S' = free ties (k + 1) one T S ∧ unseen S' ≤ k ∧ S'.length + unseen S' ≤ 4 ∧ T'.length + miss T' ≤ 4) 4 ?_
  refine AIt_range rfl hRg ?_
  (repeat walk_at "m")
  refine ⟨4, rfl, by decide, by decide, ⟨T, S, ep, none, by omega, h0, rfl, rfl, hu, hS, hT⟩, ?_⟩
  rintro i m' ps' ⟨T', S', ep', mv, hi, rfl, rfl, hc, hu', hS', hT'⟩
  refine ⟨trivial, fun p hp => ?_, fun hp => ?_⟩
  · have hi4 : i < 4 := by
      unfold rngN at hp
      split at hp
      · omega
      · cases hp
    have hpe : p = .int i := by
      unfold rngN at hp
      rw [if_pos (by omega)] at hp
      exact (Option.some.inj hp).symm
    subst hpe
    refine ⟨hi4, ?_⟩
    rw [drop4 i hi4] at hc
    have hm4 := mem4 i hi4
    generalize (i : Int) = o at hc hm4
    refine AT_name rfl ?_
    refine ASs_cons (AS_if (AB.mono (Q := fun c ps' => ps' = F2 ps a b T' S' ep' ∧ c = decide ((one, o) ∈ ties ∧ o ∉ S')) ?_ ?_))
    · refine AB_bool (AAll_and ?_)
      (repeat walk_at "m")
      refine AE_tuple ?_
      (repeat walk_at "m")
      refine ⟨by simp, ?_⟩
      (repeat walk_at "m")
      refine AO_in (K := dk2) (x := (one, o)) (hC _ _ _) ?_
      refine ⟨_, rfl, fun h1 => ?_, fun h1 => ?_⟩
      · have : (one, o) ∉ ties := by simpa using h1
        exact ⟨rfl, (decide_eq_false fun h => this h.1).symm⟩
      · have h1' : (one, o) ∈ ties := by simpa using h1
        refine AAll_and ?_
        (repeat walk_at "m")
        refine AO_notIn (K := dkI) (x := o) (contents_eq (hB _ _ _)) ?_
        refine ⟨_, rfl, fun h2 => ⟨rfl, ?_⟩, fun h2 => AAll_and_nil ⟨rfl, ?_⟩⟩
        · have : o ∈ S' := by simpa using h2
          exact (decide_eq_false fun h => h.2 this).symm
        · have : o ∉ S' := by simpa using h2
          exact (decide_eq_true ⟨h1', this⟩).symm
    · rintro c ps' ⟨rfl, hcc⟩
      refine ⟨fun hct => ?_, fun hcf => ?_⟩
      · have hcond : (one, o) ∈ ties ∧ o ∉ S' := by rw [hct] at hcc; exact of_decide_eq_true hcc.symm
        have hlt := unseen_add hm4 hcond.2
        have hS2 : (S' ++ [o]).length + unseen (S' ++ [o]) ≤ 4 := by rw [List.length_append]; simp only [List.length_singleton]; omega
        unfold cols at hc
        rw [if_pos hcond] at hc
        refine ASs_cons (AS_expr (AE_meth F.plainAttrs_list F.slot_list_append F.type_list_append ?_ rfl rfl rfl) rfl)
        (repeat walk_at "m")
        refine ⟨by simp [typeName, hB], ?_⟩
        (repeat walk_at "m")
        refine BC_append (hB _ _ _) (by simp; omega) ?_
        refine ⟨.inl rfl, ?_⟩
        rw [show S'.map PV.int ++ [PV.int o] = (S' ++ [o]).map PV.int by simp, hsB]
        show ASs _ _ _ _ _ _
        refine ASs_cons (AS_if (AB.mono (Q := fun c ps' => ∃ T2 S2 ep2, ps' = F2 ps a b T2 S2 ep2 ∧ unseen S2 ≤ k ∧ S2.length + unseen S2 ≤ 4 ∧ T2.length + miss T2 ≤ 4 ∧
          (c = true → (true, putI T2 o one, S2) = free ties (k + 1) one T S) ∧ (c = false → cols (free ties k) ties one (C4.drop (i + 1)) T2 S2 = free ties (k + 1) one T S)) ?_ ?_))
        · refine AB_bool (AAll_or ?_)
          (repeat walk_at "m")
          refine AO_notInI (hA _ _ _) ?_
          rw [kget_idm]
          cases hg : getI T' o with
          | none =>
            rw [hg] at hc
            refine ⟨_, rfl, fun _ => ⟨T', S' ++ [o], ep', rfl, by omega, hS2, hT', fun _ => hc, fun h => nomatch h⟩, fun h => absurd h (by simp)⟩
          | some w =>
            rw [hg] at hc
            simp only at hc
            refine ⟨_, rfl, fun h => absurd h (by simp), fun _ => ?_⟩
            refine AAll_or (AB_val (AE_fn H rfl rfl ?_))
            (repeat walk_at "m")
            refine AItem_idict (hA _ _ _) (x := .int w) (by rw [kget_idm, hg]; rfl) ?_
            (repeat walk_at "m")
            have hk1 : unseen (S' ++ [o]) + 1 ≤ k := by omega
            refine hrec w T' (S' ++ [o]) ep' _ _ hk1 hS2 hT' (hA _ _ _) (hB _ _ _) (fun X Y => ?_) fun ep2 => ?_
            · have : ((F2 ps a b T' (S' ++ [o]) ep').set a X).set b Y = (ps.set a X).set b Y := by
                unfold F2; rw [List.set_comm _ _ hab.symm, List.set_set, List.set_set]
              rw [this]; exact ht X Y
            · rw [hF]
              have hsub := free_sub ties k w T' (S' ++ [o])
              have hwf := free_wf ties k w T' (S' ++ [o])
              have hln := free_len ties k w T' (S' ++ [o])
              have hmono := unseen_mono hsub
              refine ⟨_, rfl, ?_⟩
              have key : ∀ c : Bool, (free ties k w T' (S' ++ [o])).1 = c → ∃ T2 S2 ep2', F2 ps a b (free ties k w T' (S' ++ [o])).2.1 (free ties k w T' (S' ++ [o])).2.2 ep2 = F2 ps a b T2 S2 ep2' ∧ unseen S2 ≤ k ∧ S2.length + unseen S2 ≤ 4 ∧ T2.length + miss T2 ≤ 4 ∧
                  (c = true → (true, putI T2 o one, S2) = free ties (k + 1) one T S) ∧ (c = false → cols (free ties k) ties one (C4.drop (i + 1)) T2 S2 = free ties (k + 1) one T S) := by
                intro c hcc
                refine ⟨_, _, ep2, rfl, by omega, by omega, by omega, fun ht => ?_, fun hf => ?_⟩
                · rw [ht] at hcc
                  match hq : free ties k w T' (S' ++ [o]) with
                  | (b', T3, S3) =>
                    rw [hq] at hcc hc
                    have hb' : b' = true := hcc
                    subst hb'
                    exact hc
                · rw [hf] at hcc
                  match hq : free ties k w T' (S' ++ [o]) with
                  | (b', T3, S3) =>
                    rw [hq] at hcc hc
                    have hb' : b' = false := hcc
                    subst hb'
                    exact hc
              exact ⟨fun h => key true h, fun h => AAll_or_nil (key false h)⟩
        · rintro c ps' ⟨T2, S2, ep2, rfl, hu2, hS2', hT2, hct2, hcf2⟩
          refine ⟨fun h => ?_, fun h => ?_⟩
          · have hres := hct2 h
            refine ASs_cons (AS_assign_sub rfl ?_)
            (repeat walk_at "m")
            refine ASet_idict (hA _ _ _) (by rw [idm_length]; omega) fun ep3 => ?_
            rw [kput_idm, hsA]
            show ASs _ _ _ _ _ _
            (repeat walk_at "m")
            rw [← hres] at hQ
            exact hQ ep3
          · (repeat walk_at "m")
            exact ⟨T2, S2, ep2, _, by omega, rfl, rfl, hcf2 h, hu2, hS2', hT2⟩
      · have hcond : ¬ ((one, o) ∈ ties ∧ o ∉ S') := by rw [hcf] at hcc; exact of_decide_eq_false hcc.symm
        unfold cols at hc
        rw [if_neg hcond] at hc
        (repeat walk_at "m")
        exact ⟨T', S', ep', _, by omega, rfl, rfl, hc, hu', hS', hT'⟩
  · have : i = 4 := by
      unfold rngN at hp
      split at hp
      · cases hp
      · omega
    subst this
    have hc' : free ties (k + 1) one T S = (false, T', S') := hc.symm
    (repeat walk_at "m")
    rw [hc'] at hQ
    exact hQ ep'

theorem free_ok {B : Base} {f : Addr} (H : FnAt B "_law_free" (defOf PySem.Challenge.pw_ia0003_01 "_law_free") ["ties", "one", "taken", "seen"] [] f) (hRg : GLook B "range" (.type "range")) (hlim : B.h0.NoLimit)
    {ties : List (Int × Int)} {pt : PV} {a b : Nat} (hab : a ≠ b) : ∀ (k : Nat) (one : Int) (T : List (Int × Int)) (S : List Int) (ep : Nat) (ps : List PO) (Q : PV → List PO → Prop), unseen S ≤ k → S.length + unseen S ≤ 4 → T.length + miss T ≤ 4 →
      ps[a]? = some (.idict (idm T) ep) → ps[b]? = some (.list (S.map .int)) → (∀ X Y, contents ((ps.set a X).set b Y) pt = some (ties.map pv2)) →
      (∀ ep', Q (.bool (free ties (k + 1) one T S).1) (F2 ps a b (free ties (k + 1) one T S).2.1 (free ties (k + 1) one T S).2.2 ep')) → FC B (k + 1) f [pt, .int one, .obj a, .obj b] ps Q
  | 0 => free_step H hRg hlim hab 0 fun _ _ _ _ _ _ h => absurd h (by omega)
  | k + 1 => free_step H hRg hlim hab (k + 1) fun one T S ep ps Q h => free_ok H hRg hlim hab k one T S ep ps Q (by omega)

theorem contents_append {ps : List PO} {p : PV} {l : List PV} (h : contents ps p = some l) (X : List PO) : contents (ps ++ X) p = some l := by
  cases p with
  | lst l' => exact h
  | obj k =>
    unfold contents at h ⊢
    simp only at h ⊢
    cases hk : ps[k]? with
    | none => rw [hk] at h; cases h
    | some po =>
      rw [hk] at h
      have hlt := (List.getElem?_eq_some_iff.mp hk).1
      rw [List.getElem?_append_left hlt, hk]
      exact h
  | _ => cases h

set_option maxHeartbeats 4000000 in
theorem apart_ok {B : Base} {f g : Addr} (H : FnAt B "_law_free" (defOf PySem.Challenge.pw_ia0003_01 "_law_free") ["ties", "one", "taken", "seen"] [] f) (H' : FnAt B "_law_apart" (defOf PySem.Challenge.pw_ia0003_01 "_law_apart") ["ties"] [] g)
    (hRg : GLook B "range" (.type "range")) (hlim : B.h0.NoLimit) {ties : List (Int × Int)} {pt : PV} {ps : List PO} {Q : PV → List PO → Prop} (ht : contents ps pt = some (ties.map pv2))
    (hQ : ∀ ep J, Q (.obj ps.length) (ps ++ .idict (idm (apart ties)) ep :: J)) : FC B 6 g [pt] ps Q := by
  refine FnAt.call H' hlim (by decide +kernel) (by decide +kernel) (by decide +kernel) (by exact (by decide : 1 ≤ 1)) (by exact (by decide : 1 ≤ 1 + 0)) [some pt, none, none] (fun _ => rfl) fun name qual dV kV doc pm an cdv ct L => ?_
  conv => arg 3; whnf
  (repeat walk_at "m")
  refine AE_dict0I ?_
  show ASs _ _ _ _ _ _
  refine ASs_cons ?_
  refine AS_for (fun i m' ps' => ∃ ep J mv, i ≤ 4 ∧ ps' = ps ++ .idict (idm (apartTo ties i)) ep :: J ∧ m' = [some pt, some (.obj ps.length), mv]) 4 ?_
  refine AIt_range rfl hRg ?_
  (repeat walk_at "m")
  refine ⟨4, rfl, by decide, by decide, ⟨0, [], none, by omega, rfl, rfl⟩, ?_⟩
  rintro i m' ps' ⟨ep, J, mv, hi, rfl, rfl⟩
  refine ⟨trivial, fun p hp => ?_, fun hp => ?_⟩
  · have hi4 : i < 4 := by
      unfold rngN at hp
      split at hp
      · omega
      · cases hp
    have hpe : p = .int i := by
      unfold rngN at hp
      rw [if_pos (by omega)] at hp
      exact (Option.some.inj hp).symm
    subst hpe
    refine ⟨hi4, ?_⟩
    refine AT_name rfl ?_
    refine ASs_cons (AS_expr (AE_fn H rfl rfl ?_) rfl)
    (repeat walk_at "m")
    refine AE_listO ?_
    (repeat walk_at "m")
    refine ⟨by simp, ?_⟩
    (repeat walk_at "m")
    have hne : ps.length ≠ (ps ++ PO.idict (idm (apartTo ties i)) ep :: J).length := by simp
    refine free_ok (ties := ties) H hRg hlim hne 4 i (apartTo ties i) [] ep _ _ (by decide) (by decide) (apartTo_wf ties i hi) (by simp) (by simp) (fun X Y => ?_) fun ep' => ?_
    · rw [List.append_assoc, List.set_append_right _ _ (Nat.le_refl _), List.set_append_right _ _ (by simp)]
      exact contents_append ht _
    · refine ⟨.inr ⟨_, rfl⟩, ?_⟩
      (repeat walk_at "m")
      refine ⟨ep', (J ++ [.list ((free ties (4 + 1) i (apartTo ties i) []).2.2.map .int)]), _, hi4, ?_, rfl⟩
      unfold F2
      rw [List.append_assoc, List.set_append_right _ _ (Nat.le_refl _), List.set_append_right _ _ (by simp), apartTo_succ ties i hi4]
      simp
  · have : i = 4 := by
      unfold rngN at hp
      split at hp
      · cases hp
      · omega
    subst this
    (repeat walk_at "m")
    exact hQ ep J





set_option maxHeartbeats 4000000 in
theorem count_ok {B : Base} {f : Addr} {n : Nat} (H : FnAt B "count_calls" (defOf PySem.Challenge.pw_ia0003_01 "count_calls") ["callers"] [] f) (hlim : B.h0.NoLimit) {ps : List PO} {k : Nat} {es : List (List KA × PV)} {ep : Nat} {vs : List Int} {Q : PV → List PO → Prop}
    (hk : ps[k]? = some (.tdict es ep)) (hvs : es.map (·.2) = vs.map .int) (hQ : Q (.int vs.sum) ps) : FC B (n + 1) f [.obj k] ps Q := by
  have hkv : kvs ps (.obj k) = some (es.map fun e => (.tup (e.1.map KA.pv), e.2)) := by simp [kvs, hk]
  have hep : epOf ps (.obj k) = some ep := by simp [epOf, hk]
  have hl2 : (es.map fun e => ((.tup (e.1.map KA.pv), e.2) : PV × PV)).map (·.2) = vs.map PV.int := by rw [← hvs, List.map_map]; rfl
  refine FnAt.call H hlim (by decide +kernel) (by decide +kernel) (by decide +kernel) (by exact (by decide : 1 ≤ 1)) (by exact (by decide : 1 ≤ 1 + 0)) [some (.obj k), none, none] (fun _ => rfl) fun name qual dV kV doc pm an cdv ct L => ?_
  conv => arg 3; whnf
  (repeat walk_at "m")
  refine AS_for (fun i m' ps' => ∃ mv, i ≤ vs.length ∧ ps' = ps ∧ m' = [some (.obj k), some (.int (vs.take i).sum), mv]) vs.length ?_
  refine AIt_values rfl rfl rfl ?_
  (repeat walk_at "m")
  refine ⟨_, ep, hkv, hep, ⟨none, Nat.zero_le _, rfl, rfl⟩, ?_⟩
  rintro i m' ps' ⟨mv, hi, rfl, rfl⟩
  refine ⟨⟨hkv, hep⟩, fun p hp => ?_, fun hp => ?_⟩
  · unfold dN at hp
    rw [hl2, List.getElem?_map] at hp
    cases hx : vs[i]? with
    | none => rw [hx] at hp; cases hp
    | some x =>
      rw [hx] at hp
      cases hp
      have hlt := (List.getElem?_eq_some_iff.mp hx).1
      refine ⟨hlt, ?_⟩
      refine AT_name rfl ?_
      refine ASs_cons (AS_aug rfl rfl ?_)
      (repeat walk_at "m")
      refine AO_iadd ?_
      (repeat walk_at "m")
      refine ⟨some (.int x), hlt, rfl, ?_⟩
      rw [show (vs.take (i + 1)).sum = (vs.take i).sum + x by rw [List.take_succ, hx]; simp]
      rfl
  · unfold dN at hp
    rw [hl2, List.getElem?_map] at hp
    have : vs[i]? = none := by
      cases hx : vs[i]? with
      | none => rfl
      | some x => rw [hx] at hp; cases hp
    rw [List.getElem?_eq_none_iff] at this
    have htk : vs.take i = vs := List.take_of_length_le this
    (repeat walk_at "m")
    rw [htk]
    exact hQ

theorem kput_new {es : List (List KA × PV)} {k : List KA} {x : PV} (h : k ∉ es.map (·.1)) : kput es k x = es ++ [(k, x)] := by
  unfold kput
  rw [if_neg]
  intro ha
  rw [List.any_eq_true] at ha
  obtain ⟨e, he, hk⟩ := ha
  exact h (List.mem_map.mpr ⟨e, he, of_decide_eq_true hk⟩)

theorem not_mem_take {α : Type} {L : List α} (h : L.Nodup) {i : Nat} {y : α} (e : L[i]? = some y) : y ∉ L.take i := by
  intro hm
  have hi := (List.getElem?_eq_some_iff.mp e).1
  have hd : y ∈ L.drop i := by
    rw [List.mem_iff_getElem?]
    exact ⟨0, by rw [List.getElem?_drop]; exact e⟩
  rw [← List.take_append_drop i L] at h
  exact (List.nodup_append.mp h).2.2 y hm y hd rfl

set_option maxHeartbeats 4000000 in
theorem add_ok {B : Base} {f : Addr} {n : Nat} (H : FnAt B "add_callers" (defOf PySem.Challenge.pw_ia0003_01 "add_callers") ["target", "source"] [] f) (hlim : B.h0.NoLimit) {ps : List PO} {a b : Nat} {es fs : List (List KA × PV)} {ea eb : Nat} {Q : PV → List PO → Prop}
    (ha : ps[a]? = some (.tdict es ea)) (hb : ps[b]? = some (.tdict fs eb)) (hnd : ((es ++ fs).map (·.1)).Nodup) (hl : es.length + fs.length ≤ 1000) (hQ : ∀ ep, Q (.obj ps.length) (ps ++ [.tdict (es ++ fs) ep])) : FC B (n + 1) f [.obj a, .obj b] ps Q := by
  refine FnAt.call H hlim (by decide +kernel) (by decide +kernel) (by decide +kernel) (by exact (by decide : 2 ≤ 2)) (by exact (by decide : 2 ≤ 2 + 0)) [some (.obj a), some (.obj b), none, none, none] (fun _ => rfl) fun name qual dV kV doc pm an cdv ct L => ?_
  conv => arg 3; whnf
  (repeat walk_at "m")
  refine AE_dict0T ?_
  show ASs _ _ _ _ _ _
  have kvA : ∀ X : List PO, kvs (ps ++ X) (.obj a) = some (es.map fun e => (.tup (e.1.map KA.pv), e.2)) := fun X => by
    simp [kvs, List.getElem?_append_left (List.getElem?_eq_some_iff.mp ha).1, ha]
  have epA : ∀ X : List PO, epOf (ps ++ X) (.obj a) = some ea := fun X => by
    simp [epOf, List.getElem?_append_left (List.getElem?_eq_some_iff.mp ha).1, ha]
  have kvB : ∀ X : List PO, kvs (ps ++ X) (.obj b) = some (fs.map fun e => (.tup (e.1.map KA.pv), e.2)) := fun X => by
    simp [kvs, List.getElem?_append_left (List.getElem?_eq_some_iff.mp hb).1, hb]
  have epB : ∀ X : List PO, epOf (ps ++ X) (.obj b) = some eb := fun X => by
    simp [epOf, List.getElem?_append_left (List.getElem?_eq_some_iff.mp hb).1, hb]
  have hN : ∀ X : PO, (ps ++ [X])[ps.length]? = some X := fun X => by simp
  have nd1 : ∀ i x, es[i]? = some x → x.1 ∉ (es.take i).map (·.1) := by
    intro i x hx
    have hi := (List.getElem?_eq_some_iff.mp hx).1
    have h1 := not_mem_take hnd (i := i) (y := x.1) (by rw [List.getElem?_map, List.getElem?_append_left hi, hx]; rfl)
    rw [← List.map_take, List.take_append_of_le_length (by omega)] at h1
    exact h1
  have nd2 : ∀ i x, fs[i]? = some x → x.1 ∉ (es ++ fs.take i).map (·.1) := by
    intro i x hx
    have hi := (List.getElem?_eq_some_iff.mp hx).1
    have h1 := not_mem_take hnd (i := es.length + i) (y := x.1) (by rw [List.getElem?_map, List.getElem?_append_right (by omega), show es.length + i - es.length = i by omega, hx]; rfl)
    rw [← List.map_take, List.take_length_add_append] at h1
    exact h1
  refine ASs_cons ?_
  refine AS_for (fun i m' ps' => ∃ ep v w, i ≤ es.length ∧ ps' = ps ++ [.tdict (es.take i) ep] ∧ m' = [some (.obj a), some (.obj b), some (.obj ps.length), v, w]) es.length ?_
  refine AIt_items rfl rfl rfl ?_
  (repeat walk_at "m")
  refine ⟨_, ea, kvA _, epA _, ⟨0, none, none, Nat.zero_le _, rfl, rfl⟩, ?_⟩
  rintro i m' ps' ⟨ep, v, w, hi, rfl, rfl⟩
  refine ⟨⟨kvA _, epA _⟩, fun p hp => ?_, fun hp => ?_⟩
  · unfold dN at hp
    rw [List.map_map, List.getElem?_map] at hp
    cases hx : es[i]? with
    | none => rw [hx] at hp; cases hp
    | some x =>
      rw [hx] at hp
      cases hp
      have hlt := (List.getElem?_eq_some_iff.mp hx).1
      refine ⟨hlt, ?_⟩
      refine AT_tuple (AU_cons (AT_name rfl (AU_cons (AT_name rfl (AU_nil ?_))))) 
      refine ASs_cons (AS_assign_sub rfl ?_)
      (repeat walk_at "m")
      refine ASet_tdict (hN _) (by rw [List.length_take]; omega) fun ep' => ?_
      (repeat walk_at "m")
      refine ⟨ep', _, _, hlt, ?_, rfl⟩
      rw [kput_new (nd1 i x hx), List.set_append_right _ _ (Nat.le_refl _), List.take_succ, hx]
      simp
  · have hie : i = es.length := by
      unfold dN at hp
      rw [List.map_map, List.getElem?_map] at hp
      cases hx : es[i]? with
      | none => rw [List.getElem?_eq_none_iff] at hx; omega
      | some x => rw [hx] at hp; cases hp
    subst hie
    rw [List.take_length]
    show ASs _ _ _ _ _ _
    refine ASs_cons ?_
    refine AS_for (fun i m' ps' => ∃ ep v w, i ≤ fs.length ∧ ps' = ps ++ [.tdict (es ++ fs.take i) ep] ∧ m' = [some (.obj a), some (.obj b), some (.obj ps.length), v, w]) fs.length ?_
    refine AIt_items rfl rfl rfl ?_
    (repeat walk_at "m")
    refine ⟨_, eb, kvB _, epB _, ⟨ep, v, w, Nat.zero_le _, by simp, rfl⟩, ?_⟩
    rintro i m' ps' ⟨ep, v, w, hi, rfl, rfl⟩
    refine ⟨⟨kvB _, epB _⟩, fun p hp => ?_, fun hp => ?_⟩
    · unfold dN at hp
      rw [List.map_map, List.getElem?_map] at hp
      cases hx : fs[i]? with
      | none => rw [hx] at hp; cases hp
      | some x =>
        rw [hx] at hp
        cases hp
        have hlt := (List.getElem?_eq_some_iff.mp hx).1
        refine ⟨hlt, ?_⟩
        refine AT_tuple (AU_cons (AT_name rfl (AU_cons (AT_name rfl (AU_nil ?_)))))
        refine ASs_cons (AS_if_f ?_)
        (repeat walk_at "m")
        refine AO_inT (hN _) ?_
        have hno : kget (es ++ fs.take i) x.1 = none := by
          unfold kget
          rw [Option.map_eq_none_iff, List.find?_eq_none]
          intro e he hk
          exact nd2 i x hx (List.mem_map.mpr ⟨e, he, of_decide_eq_true hk⟩)
        refine ⟨_, rfl, by rw [hno]; rfl, ?_⟩
        refine ASs_cons (AS_assign_sub rfl ?_)
        (repeat walk_at "m")
        refine ASet_tdict (hN _) (by rw [List.length_append, List.length_take]; omega) fun ep' => ?_
        (repeat walk_at "m")
        refine ⟨ep', _, _, hlt, ?_, rfl⟩
        rw [kput_new (nd2 i x hx), List.set_append_right _ _ (Nat.le_refl _), List.take_succ, hx]
        simp
    · have hie : i = fs.length := by
        unfold dN at hp
        rw [List.map_map, List.getElem?_map] at hp
        cases hx : fs[i]? with
        | none => rw [List.getElem?_eq_none_iff] at hx; omega
        | some x => rw [hx] at hp; cases hp
      subst hie
      rw [List.take_length]
      (repeat walk_at "m")
      exact hQ ep


/-! # the cover, plainly -/
def mstep (ties T : List (Int × Int)) (one : Int) (s : List Int × List Int) (o : Int) : List Int × List Int :=
  if (one, o) ∈ ties ∧ o ∉ s.2 then
    match getI T o with
    | some w => if w ∉ s.1 then (s.1 ++ [w], s.2 ++ [o]) else (s.1, s.2 ++ [o])
    | none => (s.1, s.2 ++ [o])
  else s
def mrow (ties T : List (Int × Int)) (one : Int) (s : List Int × List Int) : List Int × List Int := C4.foldl (mstep ties T one) s
def mloop (ties T : List (Int × Int)) : Nat → Nat → List Int × List Int → List Int × List Int
  | 0, _, s => s
  | f + 1, i, s => match s.1[i]? with
    | none => s
    | some one => mloop ties T f (i + 1) (mrow ties T one s)
def left0 (T : List (Int × Int)) : List Int := C4.filter fun one => !(T.map (·.2)).contains one
def meetLR (ties T : List (Int × Int)) : List Int × List Int := mloop ties T 9 0 (left0 T, [])

/-- the measure that bounds both lists -/
def mfit (s : List Int × List Int) : Prop := s.1.length ≤ 4 + s.2.length ∧ s.2.length + unseen s.2 ≤ 4
theorem mfit_step {ties T : List (Int × Int)} {one o : Int} {s : List Int × List Int} (ho : o ∈ C4) (h : mfit s) : mfit (mstep ties T one s o) := by
  obtain ⟨h1, h2⟩ := h
  unfold mstep
  split
  · rename_i hc
    have h3 := unseen_add ho hc.2
    cases getI T o with
    | none => refine ⟨?_, ?_⟩ <;> simp only [List.length_append, List.length_singleton] <;> omega
    | some w =>
      simp only
      split
      · refine ⟨?_, ?_⟩ <;> simp only [List.length_append, List.length_singleton] <;> omega
      · refine ⟨?_, ?_⟩ <;> simp only [List.length_append, List.length_singleton] <;> omega
  · exact ⟨h1, h2⟩
theorem mfit_fold {ties T : List (Int × Int)} {one : Int} : ∀ (l : List Int) {s : List Int × List Int}, (∀ o ∈ l, o ∈ C4) → mfit s → mfit (l.foldl (mstep ties T one) s)
  | [], _, _, h => h
  | o :: l, s, hl, h => mfit_fold l (fun x hx => hl x (.tail _ hx)) (mfit_step (hl o (.head _)) h)






theorem rng4 (ps : List PO) : ∀ i : Nat, rngN 4 i ps = (C4[i]?).map PV.int
  | 0 => rfl
  | 1 => rfl
  | 2 => rfl
  | 3 => rfl
  | i + 4 => by
    unfold rngN
    rw [if_neg (by omega), List.getElem?_eq_none (by simp)]
    rfl

set_option maxHeartbeats 4000000 in
theorem meet_ok {B : Base} {f : Addr} {n : Nat} (H : FnAt B "_law_meet" (defOf PySem.Challenge.pw_ia0003_01 "_law_meet") ["ties", "taken"] [] f) (hRg : GLook B "range" (.type "range")) (hlim : B.h0.NoLimit) {ps : List PO} {a : Nat} {T ties : List (Int × Int)} {ep : Nat} {pt : PV} {Q : PV → List PO → Prop}
    (ha : ps[a]? = some (.idict (idm T) ep)) (ht : contents ps pt = some (ties.map pv2)) (hT : T.length ≤ 4)
    (hQ : Q (.tup [.lst ((C4.filter fun one => !decide (one ∈ (meetLR ties T).1)).map .int), .obj (ps.length + 1)]) (ps ++ [.list ((meetLR ties T).1.map .int), .list ((meetLR ties T).2.map .int)])) : FC B (n + 1) f [pt, .obj a] ps Q := by
  refine FnAt.call H hlim (by decide +kernel) (by decide +kernel) (by decide +kernel) (by exact (by decide : 2 ≤ 2)) (by exact (by decide : 2 ≤ 2 + 0)) [some pt, some (.obj a), none, none, none, none] (fun _ => rfl) fun name qual dV kV doc pm an cdv ct L => ?_
  have hla : a < ps.length := (List.getElem?_eq_some_iff.mp ha).1
  conv => arg 3; whnf
  refine ASs_cons (AS_assign rfl rfl (AE_CG ?_))
  refine CG_FO (α := Int) (β := Int) C4 .int (fun one => if (T.map (·.2)).contains one then none else some one) .int rfl (by decide) ?_
  refine AIt_range rfl hRg ?_
  (repeat walk_at "m")
  refine ⟨4, rfl, by decide, by decide, rfl, fun _ => trivial, fun i acc => ?_, fun L x acc hx => ?_, ?_⟩
  · exact rng4 _ i
  · refine AT_name rfl ?_
    refine AIfs_one ?_
    refine AB_notInValues rfl rfl rfl ?_
    (repeat walk_at "m")
    refine ⟨x, (idm T).map fun e => (.int e.1, e.2), ep, T.map (·.2), rfl, ?_, ?_, ?_, rfl, ?_, fun y hy => ?_⟩
    · simp [kvs, List.getElem?_append_left hla, ha]
    · simp [epOf, List.getElem?_append_left hla, ha]
    · unfold idm; rw [List.map_map, List.map_map, List.map_map]; rfl
    · by_cases hin : (T.map (·.2)).contains x = true
      · rw [if_pos hin, hin]; rfl
      · rw [if_neg hin]; rw [Bool.not_eq_true] at hin; rw [hin]; rfl
    · by_cases hin : (T.map (·.2)).contains x = true
      · rw [if_pos hin] at hy; cases hy
      · rw [if_neg hin] at hy; cases hy
        (repeat walk_at "m")
        exact ⟨rfl, rfl⟩
  · have e0 : (C4.filterMap fun one => if (T.map (·.2)).contains one then none else some one) = left0 T := by
      unfold left0
      generalize C4 = l
      induction l with
      | nil => rfl
      | cons x l ih =>
        rw [List.filterMap_cons, List.filter_cons]
        by_cases hin : (T.map (·.2)).contains x = true
        · simp only [hin, if_true, Bool.not_true, Bool.false_eq_true, if_false]; exact ih
        · rw [Bool.not_eq_true] at hin
          simp only [hin, Bool.false_eq_true, if_false, Bool.not_false, if_true]; rw [ih]
    rw [e0]
    show ASs _ _ _ _ _ _
    (repeat walk_at "m")
    refine AE_listO ?_
    (repeat walk_at "m")
    refine ⟨by simp, ?_⟩
    show ASs _ _ _ _ _ _
    have hs2 : ∀ (lr : List Int × List Int), (ps ++ [PO.list (lr.1.map .int), PO.list (lr.2.map .int)])[ps.length]? = some (.list (lr.1.map .int)) := fun lr => by simp
    have hs3 : ∀ (lr : List Int × List Int), (ps ++ [PO.list (lr.1.map .int), PO.list (lr.2.map .int)])[ps.length + 1]? = some (.list (lr.2.map .int)) := fun lr => by
      rw [List.getElem?_append_right (by omega)]; simp
    refine ASs_cons ?_
    refine AS_for (fun i m' ps' => ∃ lr v w, ps' = ps ++ [.list (lr.1.map .int), .list (lr.2.map .int)] ∧ m' = [some pt, some (.obj a), v, some (.obj ps.length), some (.obj (ps.length + 1)), w] ∧ mfit lr ∧ mloop ties T (9 - i) i lr = meetLR ties T ∧ i ≤ lr.1.length) 8 ?_
    refine AIt_list ?_ go_name
    (repeat walk_at "m")
    have hln : (ps ++ [PO.list (List.map PV.int (left0 T))]).length = ps.length + 1 := by simp
    refine ⟨by simp [contents], ⟨(left0 T, []), none, none, by simp, by rw [hln]; rfl, ?_, rfl, Nat.zero_le _⟩, ?_⟩
    · refine ⟨?_, (by decide : ([] : List Int).length + unseen [] ≤ 4)⟩
      have : (left0 T).length ≤ C4.length := List.length_filter_le _ _
      exact this
    rintro i m' ps' ⟨lr, v, w, rfl, rfl, hm, hlp, hil⟩
    refine ⟨by simp [contents], fun p hp => ?_, fun hp => ?_⟩
    · cases hx : lr.1[i]? with
      | none => unfold lstN at hp; rw [contents_eq (hs2 lr)] at hp; simp [hx] at hp
      | some one =>
        have hpe : p = .int one := by
          unfold lstN at hp; rw [contents_eq (hs2 lr)] at hp; simp [hx] at hp; exact hp.symm
        subst hpe
        have hlt := (List.getElem?_eq_some_iff.mp hx).1
        have hi8 : i < 8 := by have := hm.1; have := hm.2; omega
        refine ⟨hi8, ?_⟩
        refine AT_name rfl ?_
        refine ASs_cons ?_
        refine AS_for (fun j m' ps' => ∃ lr' w', j ≤ 4 ∧ ps' = ps ++ [.list (lr'.1.map .int), .list (lr'.2.map .int)] ∧ m' = [some pt, some (.obj a), some (.int one), some (.obj ps.length), some (.obj (ps.length + 1)), w'] ∧ mfit lr' ∧ (C4.drop j).foldl (mstep ties T one) lr' = mrow ties T one lr ∧ lr.1.length ≤ lr'.1.length) 4 ?_
        refine AIt_range rfl hRg ?_
        (repeat walk_at "m")
        refine ⟨4, rfl, by decide, by decide, ⟨lr, w, by omega, rfl, rfl, hm, rfl, Nat.le_refl _⟩, ?_⟩
        rintro j m' ps' ⟨lr', w', hj, rfl, rfl, hm', hfd, hll⟩
        refine ⟨trivial, fun p hp => ?_, fun hp => ?_⟩
        · have hj4 : j < 4 := by
            unfold rngN at hp
            split at hp
            · omega
            · cases hp
          have hpe : p = .int j := by
            unfold rngN at hp
            rw [if_pos (by omega)] at hp
            exact (Option.some.inj hp).symm
          subst hpe
          refine ⟨hj4, ?_⟩
          rw [drop4 j hj4, List.foldl_cons] at hfd
          have hm4 := mem4 j hj4
          generalize (j : Int) = o at hfd hm4
          have hfit := mfit_step (ties := ties) (T := T) (one := one) hm4 hm'
          refine AT_name rfl ?_
          refine ASs_cons (AS_if (AB.mono (Q := fun c ps' => ps' = ps ++ [.list (lr'.1.map .int), .list (lr'.2.map .int)] ∧ c = decide ((one, o) ∈ ties ∧ o ∉ lr'.2)) ?_ ?_))
          · refine AB_bool (AAll_and ?_)
            (repeat walk_at "m")
            refine AE_tuple ?_
            (repeat walk_at "m")
            refine ⟨by simp, ?_⟩
            (repeat walk_at "m")
            refine AO_in (K := dk2) (x := (one, o)) (contents_append ht _) ?_
            refine ⟨_, rfl, fun h1 => ?_, fun h1 => ?_⟩
            · have : (one, o) ∉ ties := by simpa using h1
              exact ⟨rfl, (decide_eq_false fun h => this h.1).symm⟩
            · have h1' : (one, o) ∈ ties := by simpa using h1
              refine AAll_and ?_
              (repeat walk_at "m")
              refine AO_notIn (K := dkI) (x := o) (contents_eq (hs3 lr')) ?_
              refine ⟨_, rfl, fun h2 => ⟨rfl, ?_⟩, fun h2 => AAll_and_nil ⟨rfl, ?_⟩⟩
              · have : o ∈ lr'.2 := by simpa using h2
                exact (decide_eq_false fun h => h.2 this).symm
              · have : o ∉ lr'.2 := by simpa using h2
                exact (decide_eq_true ⟨h1', this⟩).symm
          · rintro c ps' ⟨rfl, hcc⟩
            refine ⟨fun hct => ?_, fun hcf => ?_⟩
            · have hcond : (one, o) ∈ ties ∧ o ∉ lr'.2 := by rw [hct] at hcc; exact of_decide_eq_true hcc.symm
              refine ASs_cons (AS_expr (AE_meth F.plainAttrs_list F.slot_list_append F.type_list_append ?_ rfl rfl rfl) rfl)
              (repeat walk_at "m")
              refine ⟨by simp [typeName], ?_⟩
              (repeat walk_at "m")
              refine BC_append (hs3 _) (by have := hm'.2; simp; omega) ?_
              refine ⟨.inl rfl, ?_⟩
              have hset : (ps ++ [PO.list (lr'.1.map .int), PO.list (lr'.2.map .int)]).set (ps.length + 1) (.list (lr'.2.map PV.int ++ [.int o])) = ps ++ [.list (lr'.1.map .int), .list ((lr'.2 ++ [o]).map .int)] := by
                rw [List.set_append_right _ _ (by omega)]; simp
              rw [hset]
              show ASs _ _ _ _ _ _
              unfold mstep at hfd hfit
              rw [if_pos hcond] at hfd hfit
              have hla' : (ps ++ [PO.list (lr'.1.map .int), PO.list ((lr'.2 ++ [o]).map .int)])[a]? = some (.idict (idm T) ep) := by rw [List.getElem?_append_left hla]; exact ha
              have hb1 := hfit.1
              have hb2 := hfit.2
              refine ASs_cons (AS_if (AB_bool (AAll_and ?_)))
              (repeat walk_at "m")
              refine AO_inI hla' ?_
              rw [kget_idm]
              cases hg : getI T o with
              | none =>
                rw [hg] at hfd hfit
                refine ⟨_, rfl, fun _ => ⟨fun h => (by simp at h), fun _ => ?_⟩, fun h => by simp at h⟩
                (repeat walk_at "m")
                exact ⟨(lr'.1, lr'.2 ++ [o]), _, by omega, rfl, rfl, hfit, hfd, hll⟩
              | some x =>
                rw [hg] at hfd hfit
                refine ⟨_, rfl, fun h => by simp at h, fun _ => ?_⟩
                refine AAll_and ?_
                (repeat walk_at "m")
                refine AItem_idict hla' (x := .int x) (by rw [kget_idm, hg]; rfl) ?_
                (repeat walk_at "m")
                refine AO_notIn (K := dkI) (x := x) (contents_eq (hs2 (lr'.1, lr'.2 ++ [o]))) ?_
                refine ⟨_, rfl, fun h2 => ⟨fun h => by simp at h, fun _ => ?_⟩, fun h2 => AAll_and_nil ⟨fun _ => ?_, fun h => by simp at h⟩⟩
                · have hin : ¬ (x ∉ lr'.1) := by simpa using h2
                  simp only [if_neg hin] at hfd hfit
                  (repeat walk_at "m")
                  exact ⟨(lr'.1, lr'.2 ++ [o]), _, by omega, rfl, rfl, hfit, hfd, hll⟩
                · have hin : x ∉ lr'.1 := by simpa using h2
                  simp only [if_pos hin] at hfd hfit
                  refine ASs_cons (AS_expr (AE_meth F.plainAttrs_list F.slot_list_append F.type_list_append ?_ rfl rfl rfl) rfl)
                  (repeat walk_at "m")
                  refine ⟨by simp [typeName], ?_⟩
                  (repeat walk_at "m")
                  refine AItem_idict hla' (x := .int x) (by rw [kget_idm, hg]; rfl) ?_
                  (repeat walk_at "m")
                  refine BC_append (hs2 (lr'.1, lr'.2 ++ [o])) (by have h1 := hm'.1; have h2 := hm'.2; simp; omega) ?_
                  refine ⟨.inl rfl, ?_⟩
                  have hset2 : (ps ++ [PO.list (lr'.1.map .int), PO.list ((lr'.2 ++ [o]).map .int)]).set ps.length (.list (lr'.1.map PV.int ++ [.int x])) = ps ++ [.list ((lr'.1 ++ [x]).map .int), .list ((lr'.2 ++ [o]).map .int)] := by
                    rw [List.set_append_right _ _ (by omega)]; simp
                  rw [hset2]
                  (repeat walk_at "m")
                  exact ⟨(lr'.1 ++ [x], lr'.2 ++ [o]), _, by omega, rfl, rfl, hfit, hfd, by simp; omega⟩
            · have hcond : ¬ ((one, o) ∈ ties ∧ o ∉ lr'.2) := by rw [hcf] at hcc; exact of_decide_eq_false hcc.symm
              unfold mstep at hfd
              rw [if_neg hcond] at hfd
              (repeat walk_at "m")
              exact ⟨lr', _, by omega, rfl, rfl, hm', hfd, hll⟩
        · have : j = 4 := by
            unfold rngN at hp
            split at hp
            · cases hp
            · omega
          subst this
          have hfd' : lr' = mrow ties T one lr := hfd
          have h9 : 9 - i = (9 - (i + 1)) + 1 := by omega
          rw [h9] at hlp
          unfold mloop at hlp
          rw [hx] at hlp
          simp only at hlp
          rw [← hfd'] at hlp
          (repeat walk_at "m")
          exact ⟨lr', _, _, rfl, rfl, hm', hlp, by omega⟩
    · have hnone : lr.1[i]? = none := by
        unfold lstN at hp
        rw [contents_eq (hs2 lr)] at hp
        simp only [Option.bind, List.getElem?_map] at hp
        cases hx : lr.1[i]? with
        | none => rfl
        | some x => rw [hx] at hp; cases hp
      have hfin : meetLR ties T = lr := by
        rw [← hlp]
        cases h9 : 9 - i with
        | zero => rfl
        | succ j => unfold mloop; rw [hnone]
      rw [hfin] at hQ
      show ASs _ _ _ _ _ _
      (repeat walk_at "m")
      refine AE_tuple ?_
      refine AL_cons' rfl (AE_CG ?_)
      refine CG_F (α := Int) (β := Int) C4 .int (fun one => if one ∈ lr.1 then none else some one) .int rfl (by decide) (fun _ => trivial) ?_
      refine AIt_range rfl hRg ?_
      (repeat walk_at "m")
      refine ⟨4, rfl, by decide, by decide, rfl, fun _ => trivial, fun i acc => ?_, fun L x acc hx => ?_, ?_⟩
      · exact rng4 _ i
      · refine AT_name rfl ?_
        refine AIfs_one ?_
        (repeat walk_at "m")
        refine AO_notIn (K := dkI) (x := x) (l := lr.1) ?_ ?_
        · rw [contents_append (contents_eq (hs2 lr))]; rfl
        · refine ⟨_, rfl, rfl, ?_, fun y hy => ?_⟩
          · by_cases hin : x ∈ lr.1
            · simp [hin]
            · simp [hin]
          · by_cases hin : x ∈ lr.1
            · simp [hin] at hy
            · simp only [if_neg hin] at hy; cases hy
              (repeat walk_at "m")
              exact ⟨rfl, rfl⟩
      · (repeat walk_at "m")
        refine ⟨by simp, ?_⟩
        have e1 : C4.filterMap (fun one => if one ∈ lr.1 then none else some one) = C4.filter fun one => !decide (one ∈ lr.1) := by
          generalize C4 = l
          induction l with
          | nil => rfl
          | cons x l ih =>
            rw [List.filterMap_cons, List.filter_cons]
            by_cases hin : x ∈ lr.1
            · simp only [hin, if_true, decide_true, Bool.not_true, Bool.false_eq_true, if_false]; exact ih
            · simp only [hin, decide_false, Bool.not_false, if_true, if_false]; rw [ih]
        rw [e1]
        exact hQ


/-! # the ties, plainly -/
def tie (n : Int) : Int × Int := ((n.fdiv 4).fmod 4, n.fmod 4)
def Small (x : Int × Int) : Prop := (0 ≤ x.1 ∧ x.1 < 4) ∧ 0 ≤ x.2 ∧ x.2 < 4
theorem fmod4 (a : Int) : 0 ≤ a.fmod 4 ∧ a.fmod 4 < 4 := by
  rw [Int.fmod_eq_emod_of_nonneg _ (by decide)]
  omega
theorem tie_small (n : Int) : Small (tie n) := ⟨fmod4 _, fmod4 _⟩

theorem plt_irr (x : Int × Int) : ¬ plt x x := by unfold plt; omega
theorem plt_trans {x y z : Int × Int} (h1 : plt x y) (h2 : plt y z) : plt x z := by unfold plt at *; omega
theorem plt_anti {x y : Int × Int} (h1 : plt x y) : ¬ plt y x := fun h2 => plt_irr x (plt_trans h1 h2)
theorem plt_total {x y : Int × Int} (h1 : ¬ plt x y) (h2 : x ≠ y) : plt y x := by
  unfold plt at *
  have : ¬ (x.1 = y.1 ∧ x.2 = y.2) := fun e => h2 (Prod.ext e.1 e.2)
  omega

/-- where a new item goes -/
theorem place {x : Int × Int} : ∀ {l : List (Int × Int)}, l.Pairwise plt → x ∉ l → ∃ p : Nat, p ≤ l.length ∧ (∀ (i : Nat) y, l[i]? = some y → (plt y x ↔ i < p)) ∧ (l.take p ++ x :: l.drop p).Pairwise plt
  | [], _, _ => ⟨0, Nat.le_refl _, fun i y e => by simp at e, by simp⟩
  | z :: l, hp, hx => by
    rw [List.pairwise_cons] at hp
    have hzx : z ≠ x := fun e => hx (e ▸ .head _)
    by_cases h : plt x z
    · refine ⟨0, Nat.zero_le _, fun i y e => ⟨fun hy => ?_, fun hi => by omega⟩, ?_⟩
      · exfalso
        have : z = y ∨ plt z y := by
          rcases List.mem_cons.mp (List.mem_of_getElem? e) with h | h
          · exact .inl h.symm
          · exact .inr (hp.1 y h)
        rcases this with rfl | hz
        · exact plt_anti h hy
        · exact plt_anti (plt_trans h hz) hy
      · show List.Pairwise plt (x :: z :: l)
        refine List.pairwise_cons.mpr ⟨fun y hy => ?_, List.pairwise_cons.mpr hp⟩
        rcases List.mem_cons.mp hy with rfl | hy
        · exact h
        · exact plt_trans h (hp.1 y hy)
    · have hzx' : plt z x := plt_total h (Ne.symm hzx)
      obtain ⟨p, h1, h2, h3⟩ := place hp.2 fun hm => hx (.tail _ hm)
      refine ⟨p + 1, by simp; omega, fun i y e => ?_, ?_⟩
      · cases i with
        | zero =>
          simp at e; subst e
          exact ⟨fun _ => by omega, fun _ => hzx'⟩
        | succ i =>
          have := h2 i y (by simpa using e)
          constructor
          · intro h; have := this.mp h; omega
          · intro h; exact this.mpr (by omega)
      · rw [List.take_succ_cons, List.drop_succ_cons, List.cons_append]
        refine List.pairwise_cons.mpr ⟨fun y hy => ?_, h3⟩
        rcases List.mem_append.mp hy with hy | hy
        · exact hp.1 y (List.mem_of_mem_take hy)
        · rcases List.mem_cons.mp hy with rfl | hy
          · exact hzx'
          · exact hp.1 y (List.mem_of_mem_drop hy)
/-- where an item is found -/
theorem spot {x : Int × Int} {l : List (Int × Int)} (hp : l.Pairwise plt) (hx : x ∈ l) : ∃ p : Nat, l[p]? = some x ∧ ∀ (i : Nat) y, l[i]? = some y → (plt y x ↔ i < p) := by
  obtain ⟨p, hpx⟩ := List.mem_iff_getElem?.mp hx
  refine ⟨p, hpx, fun i y e => ?_⟩
  have hpl := (List.getElem?_eq_some_iff.mp hpx)
  have hil := (List.getElem?_eq_some_iff.mp e)
  obtain ⟨h1, e1⟩ := hpl
  obtain ⟨h2, e2⟩ := hil
  rw [List.pairwise_iff_getElem] at hp
  constructor
  · intro h
    rcases Nat.lt_trichotomy i p with c | c | c
    · exact c
    · subst c; rw [e1] at e2; subst e2; exact absurd h (plt_irr _)
    · have := hp p i h1 h2 c
      rw [e1, e2] at this
      exact absurd h (plt_anti this)
  · intro h
    have := hp i p h2 h1 h
    rw [e1, e2] at this
    exact this
theorem plt_nodup {l : List (Int × Int)} (h : l.Pairwise plt) : l.Nodup := List.nodup_iff_pairwise_ne.mpr (h.imp (S := fun a b => a ≠ b) fun hab e => by subst e; exact plt_irr _ hab)
theorem sorted_same {l l' : List (Int × Int)} (h : l.Pairwise plt) (h' : l'.Pairwise plt) (hm : ∀ x, x ∈ l ↔ x ∈ l') : l = l' :=
  List.Perm.eq_of_pairwise (fun a b _ _ h1 h2 => absurd h2 (plt_anti h1)) h h' ((List.perm_ext_iff_of_nodup (plt_nodup h) (plt_nodup h')).mpr hm)

/-- the sorted ties of a script -/
structure Ties (l : List (Int × Int)) (ns : List Int) : Prop where
  up : l.Pairwise plt
  mem : ∀ x, x ∈ l ↔ x ∈ ns.map tie
  len : l.length ≤ ns.length
theorem Ties.small {l : List (Int × Int)} {ns : List Int} (T : Ties l ns) : ∀ x ∈ l, Small x := fun x hx => by
  obtain ⟨n, _, rfl⟩ := List.mem_map.mp ((T.mem x).mp hx)
  exact tie_small n
theorem Ties.nil : Ties [] [] := ⟨List.Pairwise.nil, fun _ => Iff.rfl, Nat.le_refl _⟩
theorem Ties.old {l : List (Int × Int)} {ns : List Int} {n : Int} (T : Ties l ns) (h : tie n ∈ l) : Ties l (ns ++ [n]) :=
  ⟨T.up, fun x => by
    rw [List.map_append, List.mem_append, T.mem]
    refine ⟨.inl, fun hx => hx.elim id fun hx => ?_⟩
    have : x = tie n := by simpa using hx
    subst this; exact (T.mem _).mp h, by have := T.len; simp; omega⟩
theorem Ties.new {l : List (Int × Int)} {ns : List Int} {n : Int} {p : Nat} (T : Ties l ns) (h : (l.take p ++ tie n :: l.drop p).Pairwise plt) : Ties (l.take p ++ tie n :: l.drop p) (ns ++ [n]) := by
  have hm : ∀ x, x ∈ l.take p ++ tie n :: l.drop p ↔ x = tie n ∨ x ∈ l := fun x => by
    conv => rhs; rw [← List.take_append_drop p l]
    simp only [List.mem_append, List.mem_cons]
    constructor
    · rintro (h | h | h)
      · exact .inr (.inl h)
      · exact .inl h
      · exact .inr (.inr h)
    · rintro (h | h | h)
      · exact .inr (.inl h)
      · exact .inl h
      · exact .inr (.inr h)
  refine ⟨h, fun x => ?_, ?_⟩
  · rw [hm, List.map_append, List.mem_append, T.mem]
    constructor
    · rintro (h | h)
      · exact .inr (by simp [h])
      · exact .inl h
    · rintro (h | h)
      · exact .inr h
      · exact .inl (by simpa using h)
  · have := T.len
    simp only [List.length_append, List.length_cons, List.length_take, List.length_drop]
    omega

/-! ## the dict's keys -/
section
variable {K : Type} [DecidableEq K]
theorem kput_keys (es : List (K × PV)) (k : K) (x : PV) : ((kput es k x).map (·.1)) = if k ∈ es.map (·.1) then es.map (·.1) else es.map (·.1) ++ [k] := by
  unfold kput
  have : (es.any fun e => decide (e.1 = k)) = decide (k ∈ es.map (·.1)) := by
    rw [Bool.eq_iff_iff, List.any_eq_true]
    simp only [decide_eq_true_eq, List.mem_map]
  rw [this]
  by_cases h : k ∈ es.map (·.1)
  · rw [if_pos (by simpa using h), if_pos h, keys_put]
  · rw [if_neg (by simpa using h), if_neg h, List.map_append]; rfl
theorem putAll_keys : ∀ (l acc : List (K × PV)), (acc.map (·.1)).Nodup → ((putAll acc l).map (·.1)).Nodup ∧ ∀ k, k ∈ (putAll acc l).map (·.1) ↔ k ∈ acc.map (·.1) ∨ k ∈ l.map (·.1)
  | [], acc, h => ⟨h, fun k => by simp [putAll]⟩
  | x :: l, acc, h => by
    have hn : ((kput acc x.1 x.2).map (·.1)).Nodup := by
      rw [kput_keys]
      split
      · exact h
      · rename_i hx
        exact List.nodup_append.mpr ⟨h, by simp, fun a ha b hb => by simp at hb; subst hb; exact fun e => hx (e ▸ ha)⟩
    obtain ⟨h1, h2⟩ := putAll_keys l (kput acc x.1 x.2) hn
    refine ⟨h1, fun k => ?_⟩
    rw [show putAll acc (x :: l) = putAll (kput acc x.1 x.2) l from rfl, h2, kput_keys]
    by_cases hx : x.1 ∈ acc.map (·.1)
    · rw [if_pos hx, List.map_cons, List.mem_cons]
      constructor
      · rintro (h | h)
        · exact .inl h
        · exact .inr (.inr h)
      · rintro (h | h | h)
        · exact .inl h
        · exact .inl (h ▸ hx)
        · exact .inr h
    · rw [if_neg hx, List.map_cons, List.mem_cons, List.mem_append, List.mem_singleton]
      constructor
      · rintro ((h | h) | h)
        · exact .inl h
        · exact .inr (.inl h)
        · exact .inr (.inr h)
      · rintro (h | h | h)
        · exact .inl (.inl h)
        · exact .inl (.inr h)
        · exact .inr h
end
theorem putAll_length {K : Type} [DecidableEq K] : ∀ (l acc : List (K × PV)), (putAll acc l).length ≤ acc.length + l.length
  | [], acc => by simp [putAll]
  | x :: l, acc => by
    have h1 := putAll_length l (kput acc x.1 x.2)
    have h2 := kput_length acc x.1 x.2
    rw [show putAll acc (x :: l) = putAll (kput acc x.1 x.2) l from rfl]
    simp only [List.length_cons]; omega
def kaOf (x : Int × Int) : List KA := [.int x.1, .int x.2]
def ofKa : List KA → Int × Int
  | [.int a, .int b] => (a, b)
  | _ => (0, 0)
theorem kaOf_inj {x y : Int × Int} (h : kaOf x = kaOf y) : x = y := by
  unfold kaOf at h
  simp only [List.cons.injEq, KA.int.injEq, and_true] at h
  exact Prod.ext h.1 h.2
/-- the keys of dict([(tie, 1) ..]) -/
theorem dict_keys (ns : List Int) : ∃ l : List (Int × Int), (putAll [] (ns.map fun n => (kaOf (tie n), PV.int 1))).map (fun e => PV.tup (e.1.map KA.pv)) = l.map pv2 ∧ l.Nodup ∧ (∀ x, x ∈ l ↔ x ∈ ns.map tie) ∧ l.length ≤ ns.length := by
  have h3 := putAll_length (ns.map fun n => (kaOf (tie n), PV.int 1)) []
  rw [List.length_map] at h3
  obtain ⟨h1, h2⟩ := putAll_keys (ns.map fun n => (kaOf (tie n), PV.int 1)) [] (by simp)
  generalize putAll [] (ns.map fun n => (kaOf (tie n), PV.int 1)) = es at h1 h2 h3
  have hk : ∀ k, k ∈ es.map (·.1) ↔ ∃ n ∈ ns, kaOf (tie n) = k := fun k => by
    rw [h2]; simp
  have hall : es.map (·.1) = (es.map fun e => ofKa e.1).map kaOf := by
    rw [List.map_map]
    refine List.map_congr_left fun e he => ?_
    obtain ⟨n, _, hn⟩ := (hk e.1).mp (List.mem_map_of_mem he)
    show e.1 = kaOf (ofKa e.1)
    rw [← hn]; rfl
  refine ⟨es.map fun e => ofKa e.1, ?_, ?_, fun x => ?_, by simpa using h3⟩
  · have : es.map (fun e => PV.tup (e.1.map KA.pv)) = (es.map (·.1)).map fun k => PV.tup (k.map KA.pv) := by rw [List.map_map]; rfl
    rw [this, hall, List.map_map]; rfl
  · rw [hall] at h1
    have h1' := List.nodup_iff_pairwise_ne.mp h1
    rw [List.pairwise_map] at h1'
    exact List.nodup_iff_pairwise_ne.mpr (h1'.imp (S := fun a b => a ≠ b) fun h e => h (congrArg kaOf e))
  · constructor
    · intro hx
      have : kaOf x ∈ es.map (·.1) := by rw [hall]; exact List.mem_map_of_mem hx
      obtain ⟨n, hn, e⟩ := (hk _).mp this
      rw [← kaOf_inj e]; exact List.mem_map_of_mem hn
    · intro hx
      obtain ⟨n, hn, rfl⟩ := List.mem_map.mp hx
      have : kaOf (tie n) ∈ es.map (·.1) := (hk _).mpr ⟨n, hn, rfl⟩
      rw [hall] at this
      obtain ⟨y, hy, e⟩ := List.mem_map.mp this
      rw [← kaOf_inj e]; exact hy
theorem blw_pv2 (k : Nat) (x : Int × Int) : blw k (pv2 x) := by simp [pv2, blw, blws]
theorem blw_pv2i (k : Nat) (x : Int × Int) (i : Int) : blw k (.tup [pv2 x, .int i]) := by simp [pv2, blw, blws]


theorem fnAt_of {K : Frag} {prog : Program} {w : World} {h : Heap} {os : OsState} {mg : Str → Option Value} {x : Str} {d : Arguments × List Stmt × Scope} {params : List Str} {dflt : List PV} {f : Addr}
    {oc : Value} {od : Option Addr} {name qual : Str} {pr : Arguments} {body : List Stmt} {scope : Scope} {dV kV doc pm cdv ct : Value} {an : Option Addr} {osl : Array (Option Value)} (X : K.In h) (N : h.Ns mainGlobals mg)
    (e : nsIn K mainGlobals x = some (some (.ref f))) (ho : K.lookup f = some ⟨oc, od, .func (fnOf name qual pr body scope dV kV doc pm an cdv ct), osl⟩) (hcd : codeIn K cdv qual = true) (hd : d = (pr, body, scope))
    (hb : ∀ (s : Shared) vs, K.In s.heap → vs.length ≤ params.length → vs.length ≤ 4 → params.length ≤ vs.length + dflt.length →
      ∃ dv, BindsTo s (fnOf name qual pr body scope dV kV doc pm an cdv ct) ⟨vs, []⟩ (params.zip (vs ++ dv)) ∧ ∀ φ h, VRs φ h (dflt.drop (vs.length + dflt.length - params.length)) dv) :
    FnAt ⟨prog, w, h, os⟩ x d params dflt f := by
  subst hd
  refine ⟨.inl ⟨mg, N, mg_of X N e⟩, _, name, qual, dV, kV, doc, pm, an, cdv, ct, X _ _ ho, rfl, codeRec_of X hcd, fun φ s vs hk h1 h2 h3 => ?_⟩
  obtain ⟨dv, hB, hV⟩ := hb s vs (X.keeps hk) h1 h2 h3
  exact ⟨dv, hB, hV _ _⟩

theorem fnAt_at {K : Frag} {prog : Program} {w : World} {h : Heap} {os : OsState} {mg : Str → Option Value} {x : Str} {d : Arguments × List Stmt × Scope} {params : List Str} {dflt : List PV} {f : Addr}
    {oc : Value} {od : Option Addr} {name qual : Str} {pr : Arguments} {body : List Stmt} {scope : Scope} {dV kV doc pm cdv ct : Value} {an : Option Addr} {osl : Array (Option Value)} (X : K.In h) (N : h.Ns mainGlobals mg)
    (e : nsIn K mainGlobals x = some (some (.ref f))) (ho : K.lookup f = some ⟨oc, od, .func (fnOf name qual pr body scope dV kV doc pm an cdv ct), osl⟩) (hcd : codeIn K cdv qual = true) (hd : d = (pr, body, scope))
    (hb : ∀ (s : Shared) vs, K.In s.heap → vs.length ≤ params.length → vs.length ≤ 4 → params.length ≤ vs.length + dflt.length →
      ∃ dv, BindsTo s (fnOf name qual pr body scope dV kV doc pm an cdv ct) ⟨vs, []⟩ (params.zip (vs ++ dv)) ∧ ∀ φ h, VRs φ h (dflt.drop (vs.length + dflt.length - params.length)) dv) {fa : Addr} {x' : Str} (hm : mg x' = some (.ref fa)) (hx : x' = x) :
    FnAt ⟨prog, w, h, os⟩ x d params dflt fa := by
  subst hx
  have e' := mg_of X N e
  rw [hm] at e'
  cases e'
  exact fnAt_of X N e ho hcd hd hb

theorem len0 {α : Type} {vs : List α} (h : vs.length ≤ 0) : vs = [] := List.length_eq_zero_iff.mp (Nat.le_zero.mp h)
theorem lenS {α : Type} {vs : List α} {n : Nat} (h1 : n + 1 ≤ vs.length) : ∃ a r, vs = a :: r ∧ n ≤ r.length := by
  cases vs with
  | nil => exact absurd h1 (Nat.not_succ_le_zero n)
  | cons a r => exact ⟨a, r, rfl, Nat.le_of_succ_le_succ h1⟩
theorem len1 {α : Type} {vs : List α} (h1 : vs.length ≤ 1) (h2 : 1 ≤ vs.length) : ∃ a, vs = [a] := by
  obtain ⟨a, r, rfl, _⟩ := lenS h2
  exact ⟨a, by rw [len0 (Nat.le_of_succ_le_succ h1)]⟩
theorem len2 {α : Type} {vs : List α} (h1 : vs.length ≤ 2) (h2 : 2 ≤ vs.length) : ∃ a b, vs = [a, b] := by
  obtain ⟨a, r, rfl, h⟩ := lenS h2
  obtain ⟨b, rfl⟩ := len1 (Nat.le_of_succ_le_succ h1) h
  exact ⟨a, b, rfl⟩
theorem len3 {α : Type} {vs : List α} (h1 : vs.length ≤ 3) (h2 : 3 ≤ vs.length) : ∃ a b c, vs = [a, b, c] := by
  obtain ⟨a, r, rfl, h⟩ := lenS h2
  obtain ⟨b, c, rfl⟩ := len2 (Nat.le_of_succ_le_succ h1) h
  exact ⟨a, b, c, rfl⟩
theorem len4 {α : Type} {vs : List α} (h1 : vs.length ≤ 4) (h2 : 4 ≤ vs.length) : ∃ a b c d, vs = [a, b, c, d] := by
  obtain ⟨a, r, rfl, h⟩ := lenS h2
  obtain ⟨b, c, d, rfl⟩ := len3 (Nat.le_of_succ_le_succ h1) h
  exact ⟨a, b, c, d, rfl⟩
theorem len24 {α : Type} {vs : List α} (h1 : vs.length ≤ 4) (h2 : 2 ≤ vs.length) : (∃ a b, vs = [a, b]) ∨ (∃ a b c, vs = [a, b, c]) ∨ ∃ a b c d, vs = [a, b, c, d] := by
  rcases Nat.lt_or_ge 2 vs.length with h | h
  · rcases Nat.lt_or_ge 3 vs.length with h' | h'
    · exact .inr (.inr (len4 h1 h'))
    · exact .inr (.inl (len3 h' h))
  · exact .inl (len2 h h2)

theorem glook_builtin {K : Frag} {prog : Program} {w : World} {h : Heap} {os : OsState} {mg mb : Str → Option Value} {p : Program} {loose : List Str} {x : Str} {v : Value} (X : K.In h) (T : TopRead p loose mg mb h) (e : nsIn K mainGlobals x = some none) (hv : bootBuiltins x = some v) (hn : x ≠ "__name__") :
    GLook ⟨prog, w, h, os⟩ x v := .inr ⟨mg, mb, T.g, mg_none_of X T.g e, T.b, (T.builtins x hn).trans hv⟩

theorem well_ints {P : Params} {h : Heap} {a : Addr} {ns : List Int} (x : Well P h (.ref a) (ofPy (PyData.list (ns.map .int)))) : VR [] h (.lst (ns.map .int)) (.ref a) := by
  have e : ofPy (PyData.list (ns.map .int)) = .list (ns.map .int) := by
    clear x
    show WData.list _ = _
    congr 1
    induction ns with
    | nil => rfl
    | cons n ns ih => show _ :: _ = _; rw [List.map_cons, ← ih]; rfl
  rw [e] at x
  have all : ∀ {vs : List Value} {ns : List Int}, WellAll P h vs (ns.map .int) → VRs [] h (ns.map .int) vs := by
    intro vs
    induction vs with
    | nil => intro ns w; cases ns with
      | nil => exact VRs.nil
      | cons n ns => cases w
    | cons v vs ih => intro ns w; cases ns with
      | nil => cases w
      | cons n ns =>
        cases w with
        | cons a b => cases a with
          | int i t => exact VRs.cons vr_int (ih b)
  cases x with
  | list ho hw => exact vr_lst (by simp) ⟨_, ho⟩ (all hw)



theorem Room.le {n n' : Nat} {A : Around} (r : Room n' A) (h : n ≤ n') : Room n A := ⟨r.1, by have := r.2.1; omega, by have := r.2.2; omega⟩
theorem FC.up {B : Base} {n n' : Nat} {f : Addr} {args : List PV} {ps : List PO} {Q : PV → List PO → Prop} (h : FC B n f args ps Q) (hn : n ≤ n') : FC B n' f args ps Q :=
  fun A φ s vs r S hv => h A φ s vs (r.le hn) S hv

abbrev D1 (x : Str) := defOf PySem.Challenge.pw_ia0003_01 x
structure L1 (B : Base) : Prop where
  bis : ∃ f, FnAt B "bisect_left" (D1 "bisect_left") bisectP bisectD f
  ins : ∃ f, FnAt B "insort_left" (D1 "insort_left") bisectP bisectD f
  add : ∃ f, FnAt B "add_callers" (D1 "add_callers") ["target", "source"] [] f
  cnt : ∃ f, FnAt B "count_calls" (D1 "count_calls") ["callers"] [] f
  fre : ∃ f, FnAt B "_law_free" (D1 "_law_free") ["ties", "one", "taken", "seen"] [] f
  apa : ∃ f, FnAt B "_law_apart" (D1 "_law_apart") ["ties"] [] f
  mee : ∃ f, FnAt B "_law_meet" (D1 "_law_meet") ["ties", "taken"] [] f
  len : GLook B "len" (.builtin "len")
  range : GLook B "range" (.type "range")
  sum : GLook B "sum" (.builtin "sum")
  max : GLook B "max" (.builtin "max")
  sorted : GLook B "sorted" (.builtin "sorted")
  dict : GLook B "dict" (.type "dict")
  lim : B.h0.NoLimit

theorem lstN_map {α : Type} {ps : List PO} {p : PV} {l : List α} {g : α → PV} (h : contents ps p = some (l.map g)) (i : Nat) : lstN p i ps = (l[i]?).map g := by
  unfold lstN; rw [h]; show (l.map g)[i]? = _; rw [List.getElem?_map]

set_option maxHeartbeats 4000000 in
theorem law_A {B : Base} {f : Addr} (W : L1 B) {ns : List Int} (hns : ns.length ≤ 63) {Q : AF → List (Option PV) → List PO → Prop} (name qual dV kV doc pm an cdv ct L)
    (hk : ∀ tl J u v, Ties tl (ns.take 8) → ASs (callCtx B (fnOf name qual (D1 "law").1 (D1 "law").2.1 (D1 "law").2.2 dV kV doc pm an cdv ct) L f) 8 ((D1 "law").2.1.drop 3)
      [some (.lst (ns.map .int)), some (.obj 0), u, v, none, none, none, none, none, none, none, none, none, none, none] (.list (tl.map pv2) :: J) Q) :
    ASs (callCtx B (fnOf name qual (D1 "law").1 (D1 "law").2.1 (D1 "law").2.2 dV kV doc pm an cdv ct) L f) 8 (D1 "law").2.1
      [some (.lst (ns.map .int)), none, none, none, none, none, none, none, none, none, none, none, none, none, none] [] Q := by
  obtain ⟨fb, Hb⟩ := W.bis
  obtain ⟨fi, Hi⟩ := W.ins
  conv => arg 3; whnf
  (repeat walk_at "m")
  refine AE_listO ?_
  (repeat walk_at "m")
  refine ⟨by simp, ?_⟩
  show ASs _ _ _ _ _ _
  have hsl : (ns.map PV.int).take (8 : Int).toNat = (ns.take 8).map PV.int := by rw [← List.map_take]; rfl
  have hl8 : (ns.take 8).length ≤ 8 := by rw [List.length_take]; omega
  refine ASs_cons ?_
  refine AS_for (fun i m' ps' => ∃ tl u v, i ≤ (ns.take 8).length ∧ Ties tl ((ns.take 8).take i) ∧ ps' = [.list (tl.map pv2)] ∧ m' = [some (.lst (ns.map .int)), some (.obj 0), u, v, none, none, none, none, none, none, none, none, none, none, none]) 8 ?_
  refine AIt_list (AE_slice_to ?_) go_name
  (repeat walk_at "m")
  refine ⟨_, 8, rfl, by simp; omega, rfl, by decide, rfl, ⟨[], none, none, Nat.zero_le _, Ties.nil, rfl, rfl⟩, ?_⟩
  rw [hsl]
  rintro i m' ps' ⟨tl, u, v, hi, T, rfl, rfl⟩
  refine ⟨rfl, fun p hp => ?_, fun hp => ?_⟩
  · rw [lstN_map (l := ns.take 8) (g := PV.int) rfl] at hp
    cases hx : (ns.take 8)[i]? with
    | none => rw [hx] at hp; cases hp
    | some x =>
      rw [hx] at hp
      cases hp
      have hlt := (List.getElem?_eq_some_iff.mp hx).1
      have htk : (ns.take 8).take (i + 1) = (ns.take 8).take i ++ [x] := by rw [List.take_succ, hx]; rfl
      have htl : tl.length ≤ 8 := by have := T.len; rw [List.length_take] at this; omega
      refine ⟨by omega, ?_⟩
      refine AT_name rfl ?_
      (repeat walk_at "m")
      refine AE_tuple ?_
      (repeat walk_at "m")
      refine AO_div (by decide) (PyProof.noPylong_small (by decide)) ?_
      (repeat walk_at "m")
      refine AO_mod (by decide) ?_
      (repeat walk_at "m")
      refine AO_mod (by decide) ?_
      (repeat walk_at "m")
      refine ⟨by simp, ?_⟩
      show ASs _ _ _ _ _ _
      refine ASs_cons (AS_if ?_)
      (repeat walk_at "m")
      refine AO_notIn (K := dk2) (x := tie x) (l := tl) rfl ?_
      refine ⟨_, rfl, fun h => ?_, fun h => ?_⟩
      · have hnot : tie x ∉ tl := by simpa using h
        obtain ⟨p, h1, h2, h3⟩ := place T.up hnot
        refine ASs_cons (AS_expr (AE_fn Hi rfl rfl ?_) rfl)
        (repeat walk_at "m")
        refine insort_ok (n := 6) (x := tie x) rfl Hb Hi W.len W.lim (k := 0) (l := tl) rfl (by omega) h1 h2 ?_
        refine ⟨.inl rfl, ?_⟩
        (repeat walk_at "m")
        exact ⟨tl.take p ++ tie x :: tl.drop p, _, _, by omega, htk ▸ T.new h3, rfl, rfl⟩
      · have hin : tie x ∈ tl := by simpa using h
        (repeat walk_at "m")
        exact ⟨tl, _, _, by omega, htk ▸ T.old hin, rfl, rfl⟩
  · rw [lstN_map (l := ns.take 8) (g := PV.int) rfl] at hp
    have hnone : (ns.take 8)[i]? = none := by
      cases hx : (ns.take 8)[i]? with
      | none => rfl
      | some x => rw [hx] at hp; cases hp
    rw [List.getElem?_eq_none_iff] at hnone
    rw [List.take_of_length_le hnone] at T
    show ASs _ _ _ _ _ _
    refine ASs_cons (AS_if_f ?_)
    (repeat walk_at "m")
    refine AE_call_builtin rfl W.sorted ?_
    refine AL_cons' rfl ?_
    refine AE_call_type rfl W.dict ?_
    refine AL_cons' rfl ?_
    refine AE_CG ?_
    refine CG_F (α := Int) (β := Int × Int) (ns.take 8) .int (fun n => some (tie n)) (fun x => .tup [pv2 x, .int 1]) rfl (by omega) (fun _ => blw_pv2i _ _ _) ?_
    refine AIt_list (AE_slice_to ?_) go_name
    (repeat walk_at "m")
    refine ⟨_, 8, rfl, by simp; omega, rfl, by decide, rfl, rfl, fun _ => rfl, fun i acc => by rw [hsl]; exact lstN_map rfl i, fun L x acc hx => ?_, ?_⟩
    · refine AT_name rfl ?_
      refine AIfs_nil ⟨rfl, rfl, fun y hy => ?_⟩
      cases hy
      refine AE_tuple ?_
      refine AL_cons' rfl ?_
      refine AE_tuple ?_
      (repeat walk_at "m")
      refine AO_div (by decide) (PyProof.noPylong_small (by decide)) ?_
      (repeat walk_at "m")
      refine AO_mod (by decide) ?_
      (repeat walk_at "m")
      refine AO_mod (by decide) ?_
      (repeat walk_at "m")
      refine ⟨by simp, ?_⟩
      (repeat walk_at "m")
      exact ⟨by simp, rfl, rfl⟩
    · (repeat walk_at "m")
      have hfm : (((ns.take 8).filterMap fun n => some (tie n)).map fun x => PV.tup [pv2 x, .int 1]) = ((ns.take 8).map fun n => (kaOf (tie n), PV.int 1)).map fun x => .tup [.tup (x.1.map KA.pv), x.2] := by
        rw [List.filterMap_eq_map' (f := tie), List.map_map, List.map_map]; rfl
      rw [hfm]
      refine BC_dictT (by simp; omega) fun ep => ?_
      (repeat walk_at "m")
      obtain ⟨l, hl1, hl2, hl3, hl4⟩ := dict_keys (ns.take 8)
      have hsm : ∀ x ∈ l, Small x := fun x hx => by
        obtain ⟨n, _, rfl⟩ := List.mem_map.mp ((hl3 x).mp hx)
        exact tie_small n
      refine BC_sortedT (l := l) (k := 1) rfl hl1 hl2 (fun x hx => (hsm x hx).2) (by omega) fun l' hp hs => ?_
      refine AO_neL dk2 (l := tl) (l' := l') rfl rfl ?_
      have : tl = l' := sorted_same T.up hs fun x => by rw [T.mem, hp.mem_iff, hl3]
      refine ⟨_, rfl, by simp [this], ?_⟩
      refine ASs_nil ?_
      exact hk _ _ _ _ T



theorem contents_obj {ps : List PO} {k : Nat} {l : List PV} (h : contents ps (.obj k) = some l) : ps[k]? = some (.list l) := by
  unfold contents at h
  simp only at h
  cases hk : ps[k]? with
  | none => rw [hk] at h; cases h
  | some po =>
    rw [hk] at h
    cases po with
    | list l' => simp only [Option.some.injEq] at h; rw [h]
    | _ => cases h
theorem kvs_i {ps : List PO} {k : Nat} {es : List (Int × PV)} {ep : Nat} (h : ps[k]? = some (.idict es ep)) : kvs ps (.obj k) = some (es.map fun e => (.int e.1, e.2)) := by simp [kvs, h]
theorem epOf_i {ps : List PO} {k : Nat} {es : List (Int × PV)} {ep : Nat} (h : ps[k]? = some (.idict es ep)) : epOf ps (.obj k) = some ep := by simp [epOf, h]
theorem getI_mem {T : List (Int × Int)} (hn : (T.map (·.1)).Nodup) {e : Int × Int} (he : e ∈ T) : getI T e.1 = some e.2 := by
  induction T with
  | nil => cases he
  | cons x T ih =>
    rw [List.map_cons, List.nodup_cons] at hn
    unfold getI at ih ⊢
    rw [List.find?_cons]
    rcases List.mem_cons.mp he with rfl | he
    · simp
    · have : ¬ x.1 = e.1 := fun h => hn.1 (h ▸ List.mem_map_of_mem he)
      simp only [this, decide_false]
      exact ih hn.2 he
theorem length_of_nodup {l l' : List Int} (h : l.Nodup) (h' : l'.Nodup) (hm : ∀ x, x ∈ l ↔ x ∈ l') : l.length = l'.length := ((List.perm_ext_iff_of_nodup h h').mpr hm).length_eq
def swp (e : Int × Int) : Int × Int := (e.2, e.1)

set_option maxHeartbeats 4000000 in
theorem law_B {B : Base} {f : Addr} (W : L1 B) {tl T : List (Int × Int)} {Lm R : List Int} {script : PV} {u v : Option PV} (htl : tl.Pairwise plt) (hlt : tl.length ≤ 8) (hT : apart tl = T) (hin : ∀ e ∈ T, swp e ∈ tl) (hcol : (T.map (·.1)).Nodup) (hrow : (T.map (·.2)).Nodup) (hl4 : T.length ≤ 4)
    (hm : meetLR tl T = (Lm, R)) (hR : R.length ≤ 4) (hcov : ∀ x ∈ tl, x.1 ∈ Lm → x.2 ∈ R) (hcl : ∀ x ∈ tl, x.1 ∈ C4) (hsz : (C4.filter fun one => !decide (one ∈ Lm)).length + R.length = T.length)
    {ps : List PO} (h0 : ps[0]? = some (.list (tl.map pv2))) {Q : AF → List (Option PV) → List PO → Prop} (name qual dV kV doc pm an cdv ct L)
    (hk : ∀ (ps : List PO) w1 w2 w3, ps[0]? = some (.list (tl.map pv2)) → ASs (callCtx B (fnOf name qual (D1 "law").1 (D1 "law").2.1 (D1 "law").2.2 dV kV doc pm an cdv ct) L f) 8 ((D1 "law").2.1.drop 9)
      [some script, some (.obj 0), u, v, w1, none, some (.lst ((T.map swp).map pv2)), none, w2, w3, none, none, none, none, none] ps Q) :
    ASs (callCtx B (fnOf name qual (D1 "law").1 (D1 "law").2.1 (D1 "law").2.2 dV kV doc pm an cdv ct) L f) 8 ((D1 "law").2.1.drop 3)
      [some script, some (.obj 0), u, v, none, none, none, none, none, none, none, none, none, none, none] ps Q := by
  obtain ⟨fb, Hb⟩ := W.bis
  obtain ⟨ff, Hf⟩ := W.fre
  obtain ⟨fa, Ha⟩ := W.apa
  obtain ⟨fm, Hm⟩ := W.mee
  conv => arg 3; whnf
  have hc0 : contents ps (.obj 0) = some (tl.map pv2) := contents_eq h0
  (repeat walk_at "m")
  refine AE_fn Ha rfl rfl ?_
  (repeat walk_at "m")
  refine (apart_ok (ties := tl) Hf Ha W.range W.lim hc0 fun ep J => ?_).up (by decide)
  rw [hT]
  show ASs _ _ _ _ _ _
  have ht : ∀ X, (ps ++ (PO.idict (idm T) ep :: J) ++ X)[ps.length]? = some (.idict (idm T) ep) := fun X => by simp
  have ht' : (ps ++ (PO.idict (idm T) ep :: J))[ps.length]? = some (.idict (idm T) ep) := by simp
  have hc1 : ∀ X, contents (ps ++ (PO.idict (idm T) ep :: J) ++ X) (.obj 0) = some (tl.map pv2) := fun X => contents_append (contents_append hc0 _) _
  have hc1' : contents (ps ++ (PO.idict (idm T) ep :: J)) (.obj 0) = some (tl.map pv2) := contents_append hc0 _
  generalize ps ++ (PO.idict (idm T) ep :: J) = ps1 at ht ht' hc1 hc1'
  generalize ps.length = kt at ht ht'
  refine ASs_cons (AS_CG rfl rfl ?_)
  refine CG_F (α := Int × Int) (β := Int × Int) T (fun e => .int e.1) (fun e => some (swp e)) pv2 rfl (by omega) (fun _ => blw_pv2 _ _) ?_
  refine AIt_keys ?_
  (repeat walk_at "m")
  refine ⟨_, ep, kvs_i ht', epOf_i ht', rfl, fun acc => ⟨kvs_i (ht _), epOf_i (ht _)⟩, fun i acc => by simp [dN, idm]; rfl, fun L x acc hx => ?_, ?_⟩
  · refine AT_name rfl ?_
    refine AIfs_nil ⟨rfl, rfl, fun y hy => ?_⟩
    cases hy
    refine AE_tuple ?_
    (repeat walk_at "m")
    refine AItem_idict (ht _) (x := .int x.2) (by rw [kget_idm, getI_mem hcol hx]; rfl) ?_
    (repeat walk_at "m")
    exact ⟨by simp, rfl, rfl⟩
  · show ASs _ _ _ _ _ _
    rw [List.filterMap_eq_map' (f := swp)]
    have hcp : ∀ ps, contents ps (.lst ((T.map swp).map pv2)) = some ((T.map swp).map pv2) := fun _ => rfl
    have hmem : ∀ x ∈ T.map swp, x ∈ tl := fun x hx => by
      obtain ⟨e, he, rfl⟩ := List.mem_map.mp hx
      exact hin e he
    have hpl : (T.map swp).length ≤ 4 := by simpa using hl4
    have hrow' : (T.map swp).map (·.1) = T.map (·.2) := by rw [List.map_map]; rfl
    have hplen : (T.map swp).length = T.length := by simp
    rw [← hrow'] at hrow
    rw [← hplen] at hsz
    generalize T.map swp = P at hcp hmem hpl hk hrow hsz
    refine ASs_cons (AS_if_f ?_)
    refine AB_compare (AE_CG ?_)
    refine CG_F (α := Int × Int) (β := Int × Int) P pv2 (fun _ => none) pv2 rfl (by omega) (fun _ => blw_pv2 _ _) ?_
    refine AIt_list ?_ go_name
    (repeat walk_at "m")
    refine ⟨rfl, rfl, fun _ => rfl, fun i acc => lstN_map rfl i, fun L x acc hx => ?_, ?_⟩
    · obtain ⟨q, hq1, hq2⟩ := spot htl (hmem x hx)
      have hq3 := (List.getElem?_eq_some_iff.mp hq1).1
      refine AT_name rfl ?_
      refine AIfs_one ?_
      refine AB_bool (AAll_or ?_)
      (repeat walk_at "m")
      refine AE_fn Hb rfl rfl ?_
      (repeat walk_at "m")
      refine bisect_2 (n := 7) (l := tl) (p := q) rfl Hb W.len W.lim (hc1 _) (by omega) (by omega) hq2 ?_
      (repeat walk_at "m")
      refine AE_call_builtin rfl W.len ?_
      (repeat walk_at "m")
      refine BC_len (hc1 _) (by simp; omega) ?_
      (repeat walk_at "m")
      refine ⟨_, rfl, fun h => ?_, fun _ => ?_⟩
      · have : (q : Int) = tl.length := by simpa using h
        omega
      · refine AAll_or ?_
        (repeat walk_at "m")
        refine AE_fn Hb rfl rfl ?_
        (repeat walk_at "m")
        refine bisect_2 (n := 7) (l := tl) (p := q) rfl Hb W.len W.lim (hc1 _) (by omega) (by omega) hq2 ?_
        refine AItem_list (x := pv2 x) (hc1 _) (by omega) (by omega) (by simp [hq1]) ?_
        (repeat walk_at "m")
        refine AO_neK dk2 (x := x) (y := x) ?_
        refine ⟨_, rfl, fun h => by simp at h, fun _ => ?_⟩
        refine AAll_or_nil ⟨rfl, rfl, fun y hy => by cases hy⟩
    · refine AE_list ?_
      (repeat walk_at "m")
      refine ⟨by simp, ?_⟩
      refine AO_neL dk2 (l := []) (l' := []) (by simp [contents]) rfl ?_
      refine ⟨_, rfl, by simp, ?_⟩
      refine ASs_nil ?_
      show ASs _ _ _ _ _ _
      refine ASs_cons (AS_if_f ?_)
      refine AB_compare ?_
      refine AE_call_builtin rfl W.len ?_
      refine AL_cons' rfl ?_
      refine AE_call_type rfl W.dict ?_
      refine AL_cons' rfl ?_
      refine AE_CG ?_
      refine CG_F (α := Int × Int) (β := Int) P pv2 (fun x => some x.1) (fun i => .tup [.int i, .int 1]) rfl (by omega) (fun _ => by simp [blw, blws]) ?_
      refine AIt_list ?_ go_tuple
      (repeat walk_at "m")
      refine ⟨rfl, rfl, fun _ => rfl, fun i acc => lstN_map rfl i, fun L x acc hx => ?_, ?_⟩
      · refine AT_tuple (AU_cons (AT_name rfl (AU_cons (AT_name rfl (AU_nil ?_)))))
        refine AIfs_nil ⟨rfl, rfl, fun y hy => ?_⟩
        cases hy
        refine AE_tuple ?_
        (repeat walk_at "m")
        exact ⟨by simp, rfl, rfl⟩
      · (repeat walk_at "m")
        have hfm : ((P.filterMap fun x => some x.1).map fun i => PV.tup [.int i, .int 1]) = (P.map fun x => (x.1, PV.int 1)).map fun x => .tup [.int x.1, x.2] := by
          rw [List.filterMap_eq_map' (f := fun x : Int × Int => x.1), List.map_map, List.map_map]; rfl
        rw [hfm]
        refine BC_dictI (by simp; omega) fun ep2 => ?_
        (repeat walk_at "m")
        obtain ⟨k1, k2⟩ := putAll_keys (P.map fun x => (x.1, PV.int 1)) [] (by simp)
        have hlen : (putAll [] (P.map fun x => (x.1, PV.int 1))).length = P.length := by
          have := length_of_nodup k1 hrow fun x => by rw [k2]; simp
          simpa using this
        refine BC_lenI (k := ps1.length) (es := putAll [] (P.map fun x => (x.1, PV.int 1))) (ep := ep2) (by simp) (by rw [hlen]; omega) ?_
        rw [hlen]
        (repeat walk_at "m")
        refine AE_call_builtin rfl W.len ?_
        (repeat walk_at "m")
        refine BC_len (hcp _) (by simp; omega) ?_
        (repeat walk_at "m")
        refine ⟨_, rfl, by simp, ?_⟩
        refine ASs_nil ?_
        show ASs _ _ _ _ _ _
        refine ASs_cons (AS_assign_T rfl rfl ?_)
        refine AE_fn Hm rfl rfl ?_
        (repeat walk_at "m")
        refine meet_ok (n := 7) (ties := tl) Hm W.range W.lim (ht _) (hc1 _) hl4 ?_
        rw [hm]
        refine AT_tuple (AU_cons (AT_name rfl (AU_cons (AT_name rfl (AU_nil ?_)))))
        show ASs _ _ _ _ _ _
        generalize hLc : (C4.filter fun one => !decide (one ∈ Lm)) = Lc at hsz
        have hc2 : ∀ X, contents (ps1 ++ [PO.idict (putAll [] (P.map fun x => (x.1, PV.int 1))) ep2] ++ [.list (Lm.map .int), .list (R.map .int)] ++ X) (.obj 0) = some (tl.map pv2) := fun X => contents_append (contents_append (hc1 _) _) _
        have hz : (ps1 ++ [PO.idict (putAll [] (P.map fun x => (x.1, PV.int 1))) ep2] ++ [.list (Lm.map .int), .list (R.map .int)])[0]? = some (.list (tl.map pv2)) := by
          have := contents_obj (hc2 [])
          rw [List.append_nil] at this
          exact this
        have hr : ∀ X, contents (ps1 ++ [PO.idict (putAll [] (P.map fun x => (x.1, PV.int 1))) ep2] ++ [.list (Lm.map .int), .list (R.map .int)] ++ X) (.obj ((ps1 ++ [PO.idict (putAll [] (P.map fun x => (x.1, PV.int 1))) ep2]).length + 1)) = some (R.map .int) := fun X => by
          refine contents_append (contents_eq ?_) _
          rw [List.getElem?_append_right (by omega)]; simp
        have hr' := hr []
        have hc2' := hc2 []
        rw [List.append_nil] at hr' hc2'
        generalize ps1 ++ [PO.idict (putAll [] (P.map fun x => (x.1, PV.int 1))) ep2] ++ [.list (Lm.map .int), .list (R.map .int)] = ps2 at hc2 hr hr' hc2' hz
        generalize (ps1 ++ [PO.idict (putAll [] (P.map fun x => (x.1, PV.int 1))) ep2]).length + 1 = kr at hr hr'
        have hcl4 : Lc.length ≤ 4 := by subst hLc; exact List.length_filter_le _ _
        refine ASs_cons (AS_if_f ?_)
        refine AB_bool (AAll_or ?_)
        refine AB_compare (AE_CG ?_)
        refine CG_F (α := Int × Int) (β := Int) tl pv2 (fun _ => none) .int rfl (by omega) (fun _ => by simp [blw]) ?_
        refine AIt_list ?_ go_tuple
        (repeat walk_at "m")
        refine ⟨by rw [hc2']; rfl, rfl, fun acc => by show (contents _ _).isSome = true; rw [hc2]; rfl, fun i acc => lstN_map (hc2 _) i, fun L x acc hx => ?_, ?_⟩
        · refine AT_tuple (AU_cons (AT_name rfl (AU_cons (AT_name rfl (AU_nil ?_)))))
          refine AIfs_one ?_
          refine AB_bool (AAll_and ?_)
          (repeat walk_at "m")
          refine AO_notIn (K := dkI) (x := x.1) (l := Lc) rfl ?_
          refine ⟨_, rfl, fun h => ⟨rfl, rfl, fun y hy => by cases hy⟩, fun h => ?_⟩
          have hnL : x.1 ∉ Lc := by simpa using h
          refine AAll_and ?_
          (repeat walk_at "m")
          refine AO_notIn (K := dkI) (x := x.2) (l := R) (hr _) ?_
          have hin2 : x.2 ∈ R := hcov x hx (by
            subst hLc
            rw [List.mem_filter] at hnL
            have := hcl x hx
            apply Classical.byContradiction
            intro hn
            exact hnL ⟨this, by simpa using hn⟩)
          refine ⟨_, rfl, fun h => ⟨rfl, rfl, fun y hy => by cases hy⟩, fun h => ?_⟩
          simp [hin2] at h
        · refine AE_list ?_
          (repeat walk_at "m")
          refine ⟨by simp, ?_⟩
          refine AO_neL dkI (l := []) (l' := []) (by simp [contents]) rfl ?_
          refine ⟨_, rfl, fun h => by simp at h, fun _ => ?_⟩
          refine AAll_or ?_
          (repeat walk_at "m")
          refine AE_call_builtin rfl W.len ?_
          (repeat walk_at "m")
          refine BC_len (l := Lc.map .int) rfl (by simp; omega) ?_
          (repeat walk_at "m")
          refine AE_call_builtin rfl W.len ?_
          (repeat walk_at "m")
          refine BC_len (hr' ) (by simp; omega) ?_
          (repeat walk_at "m")
          refine AE_call_builtin rfl W.len ?_
          (repeat walk_at "m")
          refine BC_len (hcp _) (by simp; omega) ?_
          (repeat walk_at "m")
          refine ⟨_, rfl, fun h => ?_, fun _ => ?_⟩
          · simp at h; omega
          · refine AAll_or_nil ⟨rfl, ?_⟩
            refine ASs_nil ?_
            exact hk _ _ _ _ hz



abbrev C8 : List Int := [0, 1, 2, 3, 4, 5, 6, 7]
def lotI (n : Int) : List Int := C8.filter fun k => decide ((n.fdiv (2 ^ k.toNat)).fmod 2 = 1)
def covers (tl : List (Int × Int)) (lot : List Int) : Bool := tl.all fun x => decide (x.1 ∈ lot) || decide (x.2 + 4 ∈ lot)
def few (tl : List (Int × Int)) : Nat → Nat
  | 0 => 8
  | i + 1 => if (lotI i).length < few tl i ∧ covers tl (lotI i) = true then (lotI i).length else few tl i
theorem few_le (tl : List (Int × Int)) : ∀ i, few tl i ≤ 8
  | 0 => Nat.le_refl _
  | i + 1 => by unfold few; split; have := few_le tl i; omega; exact few_le tl i
theorem rng8 (ps : List PO) : ∀ i : Nat, rngN 8 i ps = (C8[i]?).map PV.int
  | 0 => rfl
  | 1 => rfl
  | 2 => rfl
  | 3 => rfl
  | 4 => rfl
  | 5 => rfl
  | 6 => rfl
  | 7 => rfl
  | i + 8 => by
    unfold rngN
    rw [if_neg (by omega), List.getElem?_eq_none (by simp)]
    rfl
theorem filterMap_if {α : Type} {p : α → Prop} [DecidablePred p] : ∀ l : List α, (l.filterMap fun x => if p x then some x else none) = l.filter fun x => decide (p x)
  | [] => rfl
  | x :: l => by
    rw [List.filterMap_cons, List.filter_cons]
    by_cases h : p x
    · simp only [h, if_true, decide_true]; rw [filterMap_if l]
    · simp only [h, if_false, decide_false]; exact filterMap_if l

set_option maxHeartbeats 4000000 in
theorem law_C {B : Base} {f : Addr} (W : L1 B) {tl P : List (Int × Int)} {script : PV} {u v w1 w2 w3 : Option PV} (hlt : tl.length ≤ 8) (hpl : P.length ≤ 4) (hfew : few tl 256 = P.length)
    {ps : List PO} (h0 : ps[0]? = some (.list (tl.map pv2))) {Q : AF → List (Option PV) → List PO → Prop} (name qual dV kV doc pm an cdv ct L)
    (hk : ∀ u w4, ASs (callCtx B (fnOf name qual (D1 "law").1 (D1 "law").2.1 (D1 "law").2.2 dV kV doc pm an cdv ct) L f) 8 ((D1 "law").2.1.drop 12)
      [some script, some (.obj 0), u, v, w1, none, some (.lst (P.map pv2)), none, w2, w3, some (.int P.length), w4, none, none, none] ps Q) :
    ASs (callCtx B (fnOf name qual (D1 "law").1 (D1 "law").2.1 (D1 "law").2.2 dV kV doc pm an cdv ct) L f) 8 ((D1 "law").2.1.drop 9)
      [some script, some (.obj 0), u, v, w1, none, some (.lst (P.map pv2)), none, w2, w3, none, none, none, none, none] ps Q := by
  conv => arg 3; whnf
  have hc : ∀ X, contents (ps ++ X) (.obj 0) = some (tl.map pv2) := fun X => contents_append (contents_eq h0) X
  have hc' : contents ps (.obj 0) = some (tl.map pv2) := contents_eq h0
  (repeat walk_at "m")
  refine AS_for (fun i m' ps' => ∃ u w4, i ≤ 256 ∧ ps' = ps ∧ m' = [some script, some (.obj 0), u, v, w1, none, some (.lst (P.map pv2)), none, w2, w3, some (.int (few tl i)), w4, none, none, none]) 256 ?_
  refine AIt_range rfl W.range ?_
  (repeat walk_at "m")
  refine ⟨256, rfl, by decide, by decide, ⟨u, none, by omega, rfl, rfl⟩, ?_⟩
  rintro i m' ps' ⟨u, w4, hi, rfl, rfl⟩
  refine ⟨trivial, fun p hp => ?_, fun hp => ?_⟩
  · have hi4 : i < 256 := by
      unfold rngN at hp
      split at hp
      · omega
      · cases hp
    have hpe : p = .int i := by
      unfold rngN at hp
      rw [if_pos (by omega)] at hp
      exact (Option.some.inj hp).symm
    subst hpe
    refine ⟨hi4, ?_⟩
    refine AT_name rfl ?_
    refine ASs_cons (AS_assign rfl rfl (AE_CG ?_))
    refine CG_F (α := Int) (β := Int) C8 .int (fun k => if ((i : Int).fdiv (2 ^ k.toNat)).fmod 2 = 1 then some k else none) .int rfl (by decide) (fun _ => by simp [blw]) ?_
    refine AIt_range rfl W.range ?_
    (repeat walk_at "m")
    refine ⟨8, rfl, by decide, by decide, rfl, fun _ => trivial, fun i acc => rng8 _ i, fun L k acc hx => ?_, ?_⟩
    · have hk8 : 0 ≤ k ∧ k < 8 := by
        simp only [C8, List.mem_cons, List.not_mem_nil, or_false] at hx
        omega
      refine AT_name rfl ?_
      refine AIfs_one ?_
      (repeat walk_at "m")
      refine AO_pow (by omega) (by omega) (by decide) ?_
      (repeat walk_at "m")
      refine AO_div ?_ ?_ ?_
      · exact Int.ne_of_gt (Int.pow_pos (by decide))
      · refine PyProof.noPylong_small ?_
        rw [Int.natAbs_pow]
        exact Nat.lt_of_le_of_lt (Nat.pow_le_pow_right (by decide) (show k.toNat ≤ 7 by omega)) (by decide)
      · (repeat walk_at "m")
        refine AO_mod (by decide) ?_
        (repeat walk_at "m")
        refine ⟨_, rfl, rfl, ?_, fun y hy => ?_⟩
        · by_cases hb : ((i : Int).fdiv (2 ^ k.toNat)).fmod 2 = 1
          · rw [if_pos hb]; simp [hb]
          · rw [if_neg hb]; simp [hb]
        · by_cases hb : ((i : Int).fdiv (2 ^ k.toNat)).fmod 2 = 1
          · rw [if_pos hb] at hy; cases hy
            (repeat walk_at "m")
            exact ⟨rfl, rfl⟩
          · rw [if_neg hb] at hy; cases hy
    · rw [filterMap_if]
      show ASs _ _ _ _ _ _
      have hlo : (C8.filter fun k => decide (((i : Int).fdiv (2 ^ k.toNat)).fmod 2 = 1)) = lotI i := rfl
      rw [hlo]
      have hll : (lotI i).length ≤ 8 := List.length_filter_le _ _
      have hcl : ∀ ps, contents ps (.lst ((lotI i).map .int)) = some ((lotI i).map dkI.f) := fun _ => rfl
      have hf8 := few_le tl i
      have hst : few tl (i + 1) = if (lotI i).length < few tl i ∧ covers tl (lotI i) = true then (lotI i).length else few tl i := rfl
      generalize few tl (i + 1) = f1 at hst
      generalize few tl i = f0 at hst hf8
      generalize lotI i = lot at hll hcl hst
      refine ASs_cons (AS_if (AB.mono (Q := fun c ps2 => ps2 = ps' ∧ c = decide (lot.length < f0 ∧ covers tl lot = true)) ?_ ?_))
      · refine AB_bool (AAll_and ?_)
        (repeat walk_at "m")
        refine AE_call_builtin rfl W.len ?_
        (repeat walk_at "m")
        refine BC_len (l := lot.map .int) rfl (by simp; omega) ?_
        (repeat walk_at "m")
        refine ⟨_, rfl, fun h1 => ⟨rfl, ?_⟩, fun h1 => ?_⟩
        · have : ¬ lot.length < f0 := by simpa using h1
          exact (decide_eq_false fun h => this h.1).symm
        · have h1' : lot.length < f0 := by simpa using h1
          refine AAll_and ?_
          refine AB_compare (AE_CG ?_)
          refine CG_F (α := Int × Int) (β := Int) tl pv2 (fun x => if x.1 ∉ lot ∧ x.2 + 4 ∉ lot then some 1 else none) .int rfl (by omega) (fun _ => by simp [blw]) ?_
          refine AIt_list ?_ go_tuple
          (repeat walk_at "m")
          refine ⟨by rw [hc']; rfl, rfl, fun acc => by show (contents _ _).isSome = true; rw [hc]; rfl, fun i acc => lstN_map (hc _) i, fun L x acc hx => ?_, ?_⟩
          · refine AT_tuple (AU_cons (AT_name rfl (AU_cons (AT_name rfl (AU_nil ?_)))))
            refine AIfs_one ?_
            refine AB_bool (AAll_and ?_)
            (repeat walk_at "m")
            refine AO_notIn (K := dkI) (x := x.1) (l := lot) rfl ?_
            refine ⟨_, rfl, fun h => ?_, fun h => ?_⟩
            · have hin : x.1 ∈ lot := by simpa using h
              refine ⟨rfl, by simp [hin], fun y hy => by simp [hin] at hy⟩
            · have hnin : x.1 ∉ lot := by simpa using h
              refine AAll_and ?_
              (repeat walk_at "m")
              refine AO_notIn (K := dkI) (x := x.2 + 4) (l := lot) rfl ?_
              refine ⟨_, rfl, fun h => ?_, fun h => ?_⟩
              · have hin : x.2 + 4 ∈ lot := by simpa using h
                refine ⟨rfl, by simp [hin], fun y hy => by simp [hin] at hy⟩
              · have hnin2 : x.2 + 4 ∉ lot := by simpa using h
                refine AAll_and_nil ⟨rfl, by simp [hnin, hnin2], fun y hy => ?_⟩
                rw [if_pos ⟨hnin, hnin2⟩] at hy; cases hy
                (repeat walk_at "m")
                exact ⟨rfl, rfl⟩
          · refine AE_list ?_
            (repeat walk_at "m")
            refine ⟨by simp, ?_⟩
            refine AO_eqL dkI (l := tl.filterMap fun x => if x.1 ∉ lot ∧ x.2 + 4 ∉ lot then some 1 else none) (l' := []) rfl rfl ?_
            have hcv : decide ((tl.filterMap fun x => if x.1 ∉ lot ∧ x.2 + 4 ∉ lot then some (1 : Int) else none) = []) = covers tl lot := by
              rw [Bool.eq_iff_iff, decide_eq_true_eq, List.filterMap_eq_nil_iff]
              unfold covers
              rw [List.all_eq_true]
              refine forall_congr' fun x => forall_congr' fun hx => ?_
              by_cases h1 : x.1 ∈ lot <;> by_cases h2 : x.2 + 4 ∈ lot <;> simp [h1, h2]
            rw [hcv]
            refine ⟨_, rfl, fun h => ⟨rfl, ?_⟩, fun h => AAll_and_nil ⟨rfl, ?_⟩⟩
            · exact (decide_eq_false fun h' => by rw [h] at h'; exact absurd h'.2 (by decide)).symm
            · exact (decide_eq_true ⟨h1', h⟩).symm
      · rintro c ps' ⟨rfl, hcc⟩
        refine ⟨fun h => ?_, fun h => ?_⟩
        · have hcond := of_decide_eq_true (hcc.symm.trans h)
          rw [if_pos hcond] at hst
          (repeat walk_at "m")
          refine AE_call_builtin rfl W.len ?_
          (repeat walk_at "m")
          refine BC_len (l := lot.map .int) rfl (by simp; omega) ?_
          (repeat walk_at "m")
          refine ⟨some (.int i), some (.lst (lot.map .int)), hi4, rfl, ?_⟩
          rw [hst, List.length_map]; rfl
        · have hcond := of_decide_eq_false (hcc.symm.trans h)
          rw [if_neg hcond] at hst
          (repeat walk_at "m")
          refine ⟨some (.int i), some (.lst (lot.map .int)), hi4, rfl, ?_⟩
          rw [hst]; rfl
  · have : i = 256 := by
      unfold rngN at hp
      split at hp
      · cases hp
      · omega
    subst this
    rw [hfew]
    show ASs _ _ _ _ _ _
    refine ASs_cons (AS_if_f ?_)
    (repeat walk_at "m")
    refine AE_call_builtin rfl W.len ?_
    (repeat walk_at "m")
    refine BC_len (l := P.map pv2) rfl (by simp; omega) ?_
    (repeat walk_at "m")
    refine ⟨_, rfl, by simp, ?_⟩
    refine ASs_nil ?_
    exact hk _ _



/-! ## eight rows of a table -/
def Rows (K : Nat) (E : Nat → List (List KA × PV)) (ps : List PO) : Prop :=
  ∃ cs : List Nat, ps[K]? = some (.list (cs.map PV.obj)) ∧ cs.length = 8 ∧ ∀ j, j < 8 → ∃ k ep, cs[j]? = some k ∧ ps[k]? = some (.tdict (E j) ep)
theorem Rows.congr {K : Nat} {E E' : Nat → List (List KA × PV)} {ps : List PO} (R : Rows K E ps) (h : ∀ j, j < 8 → E j = E' j) : Rows K E' ps := by
  obtain ⟨cs, h1, h2, h3⟩ := R
  exact ⟨cs, h1, h2, fun j hj => by rw [← h j hj]; exact h3 j hj⟩
/-- a row is replaced by a new dict -/
theorem Rows.store {E : Nat → List (List KA × PV)} {ps : List PO} {K : Nat} {cs : List Nat} (h1 : ps[K]? = some (.list (cs.map PV.obj))) (h2 : cs.length = 8) (h3 : ∀ j, j < 8 → ∃ k ep, cs[j]? = some k ∧ ps[k]? = some (.tdict (E j) ep))
    {d : PO} {e : List (List KA × PV)} {ep j0 : Nat} (hj : j0 < 8) : Rows K (fun j => if j = j0 then e else E j) ((ps ++ [d] ++ [PO.tdict e ep]).set K (.list ((cs.map PV.obj).set j0 (.obj (ps ++ [d]).length)))) := by
  have hK := (List.getElem?_eq_some_iff.mp h1).1
  refine ⟨cs.set j0 (ps ++ [d]).length, ?_, by rw [List.length_set]; exact h2, fun j hj' => ?_⟩
  · rw [List.getElem?_set_self (by simp; omega), List.map_set]
  · by_cases hjj : j = j0
    · subst hjj
      refine ⟨(ps ++ [d]).length, ep, by rw [List.getElem?_set_self (by omega)], ?_⟩
      simp only [if_true]
      rw [List.getElem?_set_ne (by simp; omega), List.getElem?_append_right (Nat.le_refl _)]
      simp
    · obtain ⟨k, ep', hc, hk⟩ := h3 j hj'
      have hkl := (List.getElem?_eq_some_iff.mp hk).1
      refine ⟨k, ep', by rw [List.getElem?_set_ne (Ne.symm hjj)]; exact hc, ?_⟩
      simp only [if_neg hjj]
      rw [List.getElem?_set_ne (fun e => by subst e; rw [h1] at hk; cases hk), List.append_assoc, List.getElem?_append_left hkl]
      exact hk
def sel (j : Nat) (x : Int × Int) : Bool := decide (x.1 = j) || decide (x.2 + 4 = j)
def keyOf (S : Bool → Str × Str) (j : Nat) (x : Int × Int) : List KA := if j < 4 then [.str (S true).1, .int x.2, .str (S true).2] else [.str (S false).1, .int x.1, .str (S false).2]
def rowE (S : Bool → Str × Str) (l : List (Int × Int)) (j : Nat) : List (List KA × PV) := (l.filter (sel j)).map fun x => (keyOf S j x, .int 1)
def cnt (l : List (Int × Int)) (j : Nat) : Nat := (l.filter (sel j)).length
theorem rowE_snoc (S : Bool → Str × Str) (l : List (Int × Int)) (x : Int × Int) (j : Nat) : rowE S (l ++ [x]) j = if sel j x = true then rowE S l j ++ [(keyOf S j x, .int 1)] else rowE S l j := by
  unfold rowE
  rw [List.filter_append, List.map_append, List.filter_cons, List.filter_nil]
  split <;> simp
theorem rowE_nodup (S : Bool → Str × Str) {l : List (Int × Int)} (hn : l.Nodup) (hs : ∀ x ∈ l, Small x) (j : Nat) : ((rowE S l j).map (·.1)).Nodup := by
  unfold rowE
  rw [List.map_map]
  have h1 := (List.nodup_iff_pairwise_ne.mp hn).filter (sel j)
  rw [List.nodup_iff_pairwise_ne, List.pairwise_map]
  refine h1.imp_of_mem ?_
  intro a b ha hb hab e
  obtain ⟨ha1, ha2⟩ := List.mem_filter.mp ha
  obtain ⟨hb1, hb2⟩ := List.mem_filter.mp hb
  have sa := hs a ha1
  have sb := hs b hb1
  unfold Small at sa sb
  unfold sel at ha2 hb2
  simp only [Bool.or_eq_true, decide_eq_true_eq] at ha2 hb2
  refine hab ?_
  simp only [Function.comp, keyOf] at e
  split at e
  · simp only [List.cons.injEq, KA.int.injEq, and_true, true_and] at e
    exact Prod.ext (by omega) e
  · simp only [List.cons.injEq, KA.int.injEq, and_true, true_and] at e
    exact Prod.ext e (by omega)
theorem rowE_vals (S : Bool → Str × Str) (l : List (Int × Int)) (j : Nat) : (rowE S l j).map (·.2) = (List.replicate (cnt l j) (1 : Int)).map PV.int := by
  unfold rowE cnt
  rw [List.map_map, List.map_replicate]
  generalize l.filter (sel j) = l'
  induction l' with
  | nil => rfl
  | cons a l' ih => rw [List.map_cons, ih, List.length_cons, List.replicate_succ]; rfl
theorem rep_sum (n : Nat) : (List.replicate n (1 : Int)).sum = n := by
  induction n with
  | zero => rfl
  | succ n ih => rw [List.replicate_succ, List.sum_cons, ih]; omega
theorem cnt_le (l : List (Int × Int)) (j : Nat) : cnt l j ≤ l.length := List.length_filter_le _ _
/-- the two rows of a new item -/
theorem rowE_two (S : Bool → Str × Str) {l : List (Int × Int)} {x : Int × Int} (hx : Small x) (j : Nat) (hj : j < 8) :
    (if j = (x.2 + 4).toNat then rowE S (l ++ [x]) j else if j = x.1.toNat then rowE S (l ++ [x]) j else rowE S l j) = rowE S (l ++ [x]) j := by
  unfold Small at hx
  split
  · rfl
  · split
    · rfl
    · rw [rowE_snoc, if_neg]
      unfold sel
      simp only [Bool.or_eq_true, decide_eq_true_eq]
      omega
theorem sel_row {x : Int × Int} (hx : Small x) : sel x.1.toNat x = true := by
  unfold Small at hx; unfold sel; simp only [Bool.or_eq_true, decide_eq_true_eq]; omega
theorem sel_col {x : Int × Int} (hx : Small x) : sel (x.2 + 4).toNat x = true := by
  unfold Small at hx; unfold sel; simp only [Bool.or_eq_true, decide_eq_true_eq]; omega
abbrev cnts (l : List (Int × Int)) : List Int := (List.range 8).map fun j => (cnt l j : Int)
/-- the rows as a list of known sums -/
theorem Rows.known {K : Nat} {S : Bool → Str × Str} {l : List (Int × Int)} {ps : List PO} (R : Rows K (rowE S l) ps) : ∃ ks : List (Nat × Int), ps[K]? = some (.list (ks.map fun x => PV.obj x.1)) ∧ ks.length = 8 ∧ ks.map (·.2) = cnts l ∧
    ∀ x ∈ ks, ∃ es ep, ∃ vs : List Int, ps[x.1]? = some (PO.tdict es ep) ∧ es.map (·.2) = vs.map PV.int ∧ vs.sum = x.2 := by
  obtain ⟨cs, h1, h2, h3⟩ := R
  have hl : cs.length = (cnts l).length := by rw [h2]; rfl
  refine ⟨cs.zip (cnts l), ?_, ?_, ?_, ?_⟩
  · rw [h1]
    have : (cs.zip (cnts l)).map (fun x => PV.obj x.1) = ((cs.zip (cnts l)).map Prod.fst).map PV.obj := by rw [List.map_map]; rfl
    rw [this, List.map_fst_zip (by omega)]
  · rw [List.length_zip, ← hl, h2]; rfl
  · show (cs.zip (cnts l)).map Prod.snd = _
    rw [List.map_snd_zip (by omega)]
  · intro x hx
    obtain ⟨j, hj⟩ := List.mem_iff_getElem?.mp hx
    obtain ⟨k, y⟩ := x
    rw [List.getElem?_zip_eq_some] at hj
    obtain ⟨hj1, hj2⟩ := hj
    have hj8 : j < 8 := by rw [← h2]; exact (List.getElem?_eq_some_iff.mp hj1).1
    obtain ⟨k', ep, hc, hk⟩ := h3 j hj8
    rw [hj1] at hc; cases hc
    refine ⟨_, ep, _, hk, rowE_vals S l j, ?_⟩
    rw [rep_sum]
    rw [List.getElem?_map, List.getElem?_range hj8] at hj2
    cases hj2; rfl



def SS1 : Bool → Str × Str := fun _ => ("t", "t")
theorem idx_obj {cs : List Nat} {j k : Nat} (h : cs[j]? = some k) {i : Int} (hi : i.toNat = j) : (cs.map PV.obj)[i.toNat]? = some (.obj k) := by
  rw [hi, List.getElem?_map, h]; rfl

theorem set_tail (ps J X Z : List PO) (Y : PO) : ∃ J2, (ps ++ J ++ X ++ Z).set ps.length Y = ps ++ J2 :=
  ⟨(J ++ X ++ Z).set 0 Y, by rw [List.append_assoc ps, List.append_assoc ps, List.set_append_right _ _ (Nat.le_refl _)]; simp⟩
set_option maxHeartbeats 4000000 in
theorem law_D {B : Base} {f : Addr} (W : L1 B) {tl P : List (Int × Int)} {script : PV} {u v w1 w2 w3 w4 : Option PV} (hnd : tl.Nodup) (hsm : ∀ x ∈ tl, Small x) (hlt : tl.length ≤ 8) 
    {ps : List PO} (h0 : ps[0]? = some (.list (tl.map pv2))) {Q : AF → List (Option PV) → List PO → Prop} (name qual dV kV doc pm an cdv ct L)
    (hk : ∀ (J : List PO) w5 w6 w7, ASs (callCtx B (fnOf name qual (D1 "law").1 (D1 "law").2.1 (D1 "law").2.2 dV kV doc pm an cdv ct) L f) 8 ((D1 "law").2.1.drop 15)
      [some script, some (.obj 0), u, v, w1, w5, some (.lst (P.map pv2)), w6, w2, w3, some (.int P.length), w4, w7, some (.lst ((cnts tl).map .int)), none] (ps ++ J) Q) :
    ASs (callCtx B (fnOf name qual (D1 "law").1 (D1 "law").2.1 (D1 "law").2.2 dV kV doc pm an cdv ct) L f) 8 ((D1 "law").2.1.drop 12)
      [some script, some (.obj 0), u, v, w1, none, some (.lst (P.map pv2)), none, w2, w3, some (.int P.length), w4, none, none, none] ps Q := by
  obtain ⟨fd, Hd⟩ := W.add
  obtain ⟨fc, Hc⟩ := W.cnt
  conv => arg 3; whnf
  have hc : ∀ X, contents (ps ++ X) (.obj 0) = some (tl.map pv2) := fun X => contents_append (contents_eq h0) X
  refine ASs_cons (AS_CG rfl rfl ?_)
  refine CG_O rfl ?_
  refine AIt_range rfl W.range ?_
  (repeat walk_at "m")
  refine ⟨8, rfl, by decide, by decide, fun L => ⟨fun i ps' => i ≤ 8 ∧ ∃ (cs : List Nat) (J : List PO), ps' = ps ++ .list (cs.map PV.obj) :: J ∧ cs.length = i ∧ ∀ j, j < i → ∃ k ep, cs[j]? = some k ∧ ps'[k]? = some (.tdict [] ep), 8, ⟨by omega, [], [], rfl, rfl, fun j hj => by omega⟩, ?_⟩⟩
  rintro i ps' ⟨hi, cs, J, rfl, hcs, hrow⟩
  refine ⟨trivial, fun p hp => ?_, fun hp => ?_⟩
  · have hi8 : i < 8 := by
      unfold rngN at hp
      split at hp
      · omega
      · cases hp
    refine ⟨hi8, ?_⟩
    refine AT_name rfl ?_
    refine AIfs_nil ⟨fun _ => ?_, fun h => by cases h⟩
    refine AE_dict0T ?_
    refine ⟨cs.map PV.obj, by simp, by simp; omega, hi8, cs ++ [(ps ++ .list (cs.map PV.obj) :: J).length], J ++ [.tdict [] 0], ?_, by simp [hcs], fun j hj => ?_⟩
    · rw [List.append_assoc, List.set_append_right _ _ (Nat.le_refl _)]; simp
    · by_cases hjj : j = i
      · subst hjj
        refine ⟨(ps ++ .list (cs.map PV.obj) :: J).length, 0, by rw [← hcs]; simp, ?_⟩
        rw [List.getElem?_set_ne (by simp), List.getElem?_append_right (Nat.le_refl _)]; simp
      · obtain ⟨k, ep, h1, h2⟩ := hrow j (by omega)
        have hkl := (List.getElem?_eq_some_iff.mp h2).1
        refine ⟨k, ep, by rw [List.getElem?_append_left (by omega)]; exact h1, ?_⟩
        rw [List.getElem?_set_ne (fun e => by subst e; simp at h2), List.getElem?_append_left hkl]; exact h2
  · have : i = 8 := by
      unfold rngN at hp
      split at hp
      · cases hp
      · omega
    subst this
    show ASs _ _ _ _ _ _
    have R0 : Rows ps.length (rowE SS1 []) (ps ++ .list (cs.map PV.obj) :: J) := ⟨cs, by simp, hcs, hrow⟩
    generalize hJ : PO.list (cs.map PV.obj) :: J = J1 at R0
    clear hrow hJ
    refine ASs_cons ?_
    refine AS_for (fun i m' ps' => ∃ J w5 w6, i ≤ tl.length ∧ ps' = ps ++ J ∧ Rows ps.length (rowE SS1 (tl.take i)) (ps ++ J) ∧ m' = [some script, some (.obj 0), u, v, w1, w5, some (.lst (P.map pv2)), w6, w2, w3, some (.int P.length), w4, some (.obj ps.length), none, none]) 8 ?_
    refine AIt_list ?_ go_tuple
    (repeat walk_at "m")
    refine ⟨by rw [hc]; rfl, ⟨J1, none, none, Nat.zero_le _, rfl, R0, rfl⟩, ?_⟩
    rintro i m' ps' ⟨J, w5, w6, hi, rfl, R, rfl⟩
    refine ⟨by show (contents _ _).isSome = true; rw [hc]; rfl, fun p hp => ?_, fun hp => ?_⟩
    · rw [lstN_map (l := tl) (g := pv2) (hc _)] at hp
      cases hx : tl[i]? with
      | none => rw [hx] at hp; cases hp
      | some x =>
        rw [hx] at hp
        cases hp
        have hlt' := (List.getElem?_eq_some_iff.mp hx).1
        have htk : tl.take (i + 1) = tl.take i ++ [x] := by rw [List.take_succ, hx]; rfl
        have sx := hsm x (List.mem_of_getElem? hx)
        have hnd1 := (rowE_nodup SS1 (l := tl.take i ++ [x]) (by rw [← htk]; exact hnd.sublist (List.take_sublist _ _)) (fun y hy => hsm y (by rw [← htk] at hy; exact List.mem_of_mem_take hy)))
        have hrl : ∀ j, (rowE SS1 (tl.take i) j).length ≤ 8 := fun j => by
          unfold rowE; rw [List.length_map]
          have h1 := List.length_filter_le (sel j) (tl.take i)
          rw [List.length_take] at h1; omega
        have e1 : rowE SS1 (tl.take i ++ [x]) x.1.toNat = rowE SS1 (tl.take i) x.1.toNat ++ [([.str "t", .int x.2, .str "t"], .int 1)] := by
          rw [rowE_snoc, if_pos (sel_row sx)]
          unfold Small at sx
          unfold keyOf; rw [if_pos (by omega)]; rfl
        have e2 : rowE SS1 (tl.take i ++ [x]) (x.2 + 4).toNat = rowE SS1 (tl.take i) (x.2 + 4).toNat ++ [([.str "t", .int x.1, .str "t"], .int 1)] := by
          rw [rowE_snoc, if_pos (sel_col sx)]
          unfold Small at sx
          unfold keyOf; rw [if_neg (by omega)]; rfl
        have two := rowE_two SS1 (l := tl.take i) sx
        have hne : ¬ x.2 + 4 = x.1 := by unfold Small at sx; omega
        obtain ⟨⟨hx1, hx2⟩, hx3, hx4⟩ := sx
        refine ⟨by omega, ?_⟩
        refine AT_tuple (AU_cons (AT_name rfl (AU_cons (AT_name rfl (AU_nil ?_)))))
        obtain ⟨cs, c1, c2, c3⟩ := R
        obtain ⟨k, ep, hck, hpk⟩ := c3 x.1.toNat (by omega)
        refine ASs_cons (AS_assign_sub rfl ?_)
        refine AE_fn Hd rfl rfl ?_
        (repeat walk_at "m")
        refine AItem_list (contents_eq c1) (by omega) (by omega) (idx_obj hck rfl) ?_
        refine AL_cons' rfl ?_
        refine AE_dict1T ?_
        refine AE_tuple ?_
        (repeat walk_at "m")
        refine ⟨by simp, ?_⟩
        (repeat walk_at "m")
        refine ⟨[.str "t", .int x.2, .str "t"], rfl, by simp, fun ep1 => ?_⟩
        (repeat walk_at "m")
        have hK := (List.getElem?_eq_some_iff.mp c1).1
        have hset1 : (ps ++ J ++ [PO.tdict [] 0]).set (ps ++ J).length (.tdict [([.str "t", .int x.2, .str "t"], .int 1)] ep1) = ps ++ J ++ [.tdict [([.str "t", .int x.2, .str "t"], .int 1)] ep1] := by
          rw [List.set_append_right _ _ (Nat.le_refl _)]; simp
        rw [hset1]
        refine add_ok (n := 7) (eb := ep1) (es := rowE SS1 (tl.take i) x.1.toNat) (fs := [([.str "t", .int x.2, .str "t"], .int 1)]) Hd W.lim (by rw [List.getElem?_append_left (List.getElem?_eq_some_iff.mp hpk).1]; exact hpk) (by simp) (by rw [← e1]; exact hnd1 _) (by have := hrl x.1.toNat; simp; omega) fun ep2 => ?_
        rw [← e1]
        (repeat walk_at "m")
        have st1 := Rows.store (e := rowE SS1 (tl.take i ++ [x]) x.1.toNat) (ep := ep2) (d := .tdict [([.str "t", .int x.2, .str "t"], .int 1)] ep1) c1 c2 c3 (j0 := x.1.toNat) (by omega)
        refine ASet_list (l := cs.map PV.obj) (by rw [List.append_assoc (ps ++ J), List.getElem?_append_left hK]; exact c1) (by simp; omega) (by omega) (by simp; omega) ?_
        obtain ⟨J2, hJ2⟩ := set_tail ps J [.tdict [([.str "t", .int x.2, .str "t"], .int 1)] ep1] [.tdict (rowE SS1 (tl.take i ++ [x]) x.1.toNat) ep2] (.list ((cs.map PV.obj).set x.1.toNat (.obj (ps ++ J ++ [PO.tdict [([.str "t", .int x.2, .str "t"], .int 1)] ep1]).length)))
        rw [hJ2] at st1 ⊢
        clear hJ2 hset1
        show ASs _ _ _ _ _ _
        obtain ⟨cs, c1, c2, c3⟩ := st1
        obtain ⟨k, ep, hck, hpk⟩ := c3 (x.2 + 4).toNat (by omega)
        simp only [if_neg (show ¬ (x.2 + 4).toNat = x.1.toNat by omega)] at hpk
        refine ASs_cons (AS_assign_sub rfl ?_)
        refine AE_fn Hd rfl rfl ?_
        (repeat walk_at "m")
        refine AItem_list (contents_eq c1) (by omega) (by omega) (idx_obj hck rfl) ?_
        refine AL_cons' rfl ?_
        refine AE_dict1T ?_
        refine AE_tuple ?_
        (repeat walk_at "m")
        refine ⟨by simp, ?_⟩
        (repeat walk_at "m")
        refine ⟨[.str "t", .int x.1, .str "t"], rfl, by simp, fun ep1 => ?_⟩
        (repeat walk_at "m")
        have hK := (List.getElem?_eq_some_iff.mp c1).1
        have hset1 : (ps ++ J2 ++ [PO.tdict [] 0]).set (ps ++ J2).length (.tdict [([.str "t", .int x.1, .str "t"], .int 1)] ep1) = ps ++ J2 ++ [.tdict [([.str "t", .int x.1, .str "t"], .int 1)] ep1] := by
          rw [List.set_append_right _ _ (Nat.le_refl _)]; simp
        rw [hset1]
        refine add_ok (n := 7) (eb := ep1) (es := rowE SS1 (tl.take i) (x.2 + 4).toNat) (fs := [([.str "t", .int x.1, .str "t"], .int 1)]) Hd W.lim (by rw [List.getElem?_append_left (List.getElem?_eq_some_iff.mp hpk).1]; exact hpk) (by simp) (by rw [← e2]; exact hnd1 _) (by have := hrl (x.2 + 4).toNat; simp; omega) fun ep2 => ?_
        rw [← e2]
        (repeat walk_at "m")
        have st1 := Rows.store (e := rowE SS1 (tl.take i ++ [x]) (x.2 + 4).toNat) (ep := ep2) (d := .tdict [([.str "t", .int x.1, .str "t"], .int 1)] ep1) c1 c2 c3 (j0 := (x.2 + 4).toNat) (by omega)
        refine ASet_list (l := cs.map PV.obj) (by rw [List.append_assoc (ps ++ J2), List.getElem?_append_left hK]; exact c1) (by simp; omega) (by omega) (by simp; omega) ?_
        obtain ⟨J3, hJ3⟩ := set_tail ps J2 [.tdict [([.str "t", .int x.1, .str "t"], .int 1)] ep1] [.tdict (rowE SS1 (tl.take i ++ [x]) (x.2 + 4).toNat) ep2] (.list ((cs.map PV.obj).set (x.2 + 4).toNat (.obj (ps ++ J2 ++ [PO.tdict [([.str "t", .int x.1, .str "t"], .int 1)] ep1]).length)))
        rw [hJ3] at st1 ⊢
        (repeat walk_at "m")
        refine ⟨J3, some (.int x.2), some (.int x.1), hlt', rfl, ?_, rfl⟩
        rw [htk]
        refine st1.congr fun j hj => ?_
        rw [← two j hj]
        split
        · rename_i h; subst h; rfl
        · split
          · rename_i h; subst h; rfl
          · rfl
    · rw [lstN_map (l := tl) (g := pv2) (hc _)] at hp
      have hnone : tl[i]? = none := by
        cases hx : tl[i]? with
        | none => rfl
        | some x => rw [hx] at hp; cases hp
      rw [List.getElem?_eq_none_iff] at hnone
      rw [List.take_of_length_le hnone] at R
      obtain ⟨ks, k1, k2, k3, k4⟩ := R.known
      show ASs _ _ _ _ _ _
      refine ASs_cons (AS_CG rfl rfl ?_)
      refine CG_F (α := Nat × Int) (β := Int) ks (fun x => .obj x.1) (fun x => some x.2) .int rfl (by omega) (fun _ => by simp [blw]) ?_
      refine AIt_list ?_ go_name
      (repeat walk_at "m")
      have kc : ∀ X, contents (ps ++ J ++ X) (.obj ps.length) = some (ks.map fun x => PV.obj x.1) := fun X => contents_append (contents_eq k1) X
      refine ⟨by rw [contents_eq k1]; rfl, rfl, fun acc => by show (contents _ _).isSome = true; rw [kc]; rfl, fun i acc => lstN_map (kc _) i, fun L x acc hx => ?_, ?_⟩
      · obtain ⟨es, ep, vs, x1, x2, x3⟩ := k4 x hx
        refine AT_name rfl ?_
        refine AIfs_nil ⟨rfl, rfl, fun y hy => ?_⟩
        cases hy
        refine AE_fn Hc rfl rfl ?_
        (repeat walk_at "m")
        refine count_ok (n := 7) Hc W.lim (by rw [List.getElem?_append_left (List.getElem?_eq_some_iff.mp x1).1]; exact x1) x2 ?_
        exact ⟨rfl, by rw [x3]⟩
      · rw [List.filterMap_eq_map' (f := fun x : Nat × Int => x.2), k3]
        exact hk J _ _ _



theorem cnt_cons (x : Int × Int) (l : List (Int × Int)) (j : Nat) : cnt (x :: l) j = (if sel j x = true then 1 else 0) + cnt l j := by
  unfold cnt
  rw [List.filter_cons]
  split
  · rw [List.length_cons, Nat.add_comm]
  · rw [Nat.zero_add]
theorem sel_iff {x : Int × Int} (hx : Small x) (j : Nat) : (sel j x = true) = (j = if j < 4 then x.1.toNat else (x.2 + 4).toNat) := by
  unfold Small at hx
  unfold sel
  rw [Bool.or_eq_true, decide_eq_true_eq, decide_eq_true_eq]
  refine propext ?_
  split <;> omega
theorem cnt_sum : ∀ (l : List (Int × Int)), (∀ x ∈ l, Small x) → cnt l 0 + (cnt l 1 + (cnt l 2 + cnt l 3)) = l.length ∧ cnt l 4 + (cnt l 5 + (cnt l 6 + cnt l 7)) = l.length
  | [], _ => ⟨rfl, rfl⟩
  | x :: l, h => by
    obtain ⟨i1, i2⟩ := cnt_sum l fun y hy => h y (.tail _ hy)
    have hx := h x (.head _)
    have key : ∀ a, a < 4 → (if 0 = a then 1 else 0) + ((if 1 = a then 1 else 0) + ((if 2 = a then 1 else 0) + (if 3 = a then 1 else 0))) = 1 := by decide
    have key2 : ∀ a, a < 8 → 4 ≤ a → (if 4 = a then 1 else 0) + ((if 5 = a then 1 else 0) + ((if 6 = a then 1 else 0) + (if 7 = a then 1 else 0))) = 1 := by decide
    have k1 := key x.1.toNat (by unfold Small at hx; omega)
    have k2 := key2 (x.2 + 4).toNat (by unfold Small at hx; omega) (by unfold Small at hx; omega)
    have s := sel_iff hx
    simp only [cnt_cons, s, List.length_cons, show (0 : Nat) < 4 from by decide, show (1 : Nat) < 4 from by decide, show (2 : Nat) < 4 from by decide, show (3 : Nat) < 4 from by decide, show ¬ (4 : Nat) < 4 from by decide, show ¬ (5 : Nat) < 4 from by decide, show ¬ (6 : Nat) < 4 from by decide, show ¬ (7 : Nat) < 4 from by decide, if_true, if_false]
    have four : ∀ a b c d e f g h n : Nat, a + (b + (c + d)) = 1 → e + (f + (g + h)) = n → (a + e) + ((b + f) + ((c + g) + (d + h))) = n + 1 := by intros; omega
    exact ⟨four _ _ _ _ _ _ _ _ _ k1 i1, four _ _ _ _ _ _ _ _ _ k2 i2⟩
theorem sumL (l : List (Int × Int)) (h : ∀ x ∈ l, Small x) : ((cnts l).take 4).sum = l.length ∧ ((cnts l).drop 4).sum = l.length := by
  obtain ⟨h1, h2⟩ := cnt_sum l h
  have e : ∀ a b c d n : Nat, a + (b + (c + d)) = n → [(a : Int), b, c, d].sum = n := by
    intro a b c d n h
    simp only [List.sum_cons, List.sum_nil]
    omega
  exact ⟨e _ _ _ _ _ h1, e _ _ _ _ _ h2⟩
theorem small_mul {a b : Nat} (ha : a ≤ 8) : IntMulOk (a : Int) b := by
  have h : ∀ a, a < 9 → Builtin.Int.intBits ((a : Nat) : Int) ≤ 64 := by decide
  exact IntMulOk.of_left (h a (Nat.lt_succ_of_le ha))
/-- the most of a list of naturals -/
theorem most_of : ∀ (l : List Int), l ≠ [] → ∃ x ∈ l, ∀ y ∈ l, y ≤ x
  | [], h => absurd rfl h
  | [a], _ => ⟨a, .head _, fun y hy => by simp at hy; omega⟩
  | a :: b :: l, _ => by
    obtain ⟨x, hx, hm⟩ := most_of (b :: l) (by simp)
    by_cases h : a ≤ x
    · exact ⟨x, .tail _ hx, fun y hy => by
        rcases List.mem_cons.mp hy with rfl | hy
        · exact h
        · exact hm y hy⟩
    · exact ⟨a, .head _, fun y hy => by
        rcases List.mem_cons.mp hy with rfl | hy
        · exact Int.le_refl _
        · have := hm y hy; omega⟩

set_option maxHeartbeats 4000000 in
theorem law_E {B : Base} {f : Addr} (W : L1 B) {tl P : List (Int × Int)} {script : PV} {u v w1 w2 w3 w4 w5 w6 w7 : Option PV} (hsm : ∀ x ∈ tl, Small x) (hlt : tl.length ≤ 8) (hpl : P.length ≤ 4)
    (hmx : ∀ x : Nat, (∀ j, j < 8 → cnt tl j ≤ x) → tl.length ≤ x * P.length)
    {tm : List (Int × Int)} (htm : tm = if (3, 3) ∈ tl then tl else tl ++ [(3, 3)]) (hap : P.length ≤ (apart tm).length ∧ (apart tm).length ≤ P.length + 1)
    {ps : List PO} (h0 : ps[0]? = some (.list (tl.map pv2))) {Q : AF → List (Option PV) → List PO → Prop} (name qual dV kV doc pm an cdv ct L)
    (hk : ∀ m ps, Q (.ret (.bool true)) m ps) :
    ASs (callCtx B (fnOf name qual (D1 "law").1 (D1 "law").2.1 (D1 "law").2.2 dV kV doc pm an cdv ct) L f) 8 ((D1 "law").2.1.drop 15)
      [some script, some (.obj 0), u, v, w1, w5, some (.lst (P.map pv2)), w6, w2, w3, some (.int P.length), w4, w7, some (.lst ((cnts tl).map .int)), none] ps Q := by
  obtain ⟨ff, Hf⟩ := W.fre
  obtain ⟨fa, Ha⟩ := W.apa
  obtain ⟨s1, s2⟩ := sumL tl hsm
  have hcb : ∀ x ∈ cnts tl, 0 ≤ x ∧ x ≤ 1000 := fun x hx => by
    obtain ⟨j, _, rfl⟩ := List.mem_map.mp hx
    have := cnt_le tl j; omega
  have hct : ∀ ps, contents ps (.lst ((cnts tl).map .int)) = some ((cnts tl).map .int) := fun _ => rfl
  have hcl : (cnts tl).length = 8 := rfl
  have hmm : ∀ x ∈ cnts tl, (∀ y ∈ cnts tl, y ≤ x) → ∃ c : Nat, x = c ∧ c ≤ 8 ∧ tl.length ≤ c * P.length := fun x hx hm => by
    obtain ⟨j, hj, rfl⟩ := List.mem_map.mp hx
    refine ⟨cnt tl j, rfl, by have := cnt_le tl j; omega, hmx _ fun i hi => ?_⟩
    have := hm (cnt tl i : Int) (List.mem_map.mpr ⟨i, List.mem_range.mpr hi, rfl⟩)
    omega
  have hne : cnts tl ≠ [] := fun e => by rw [e] at hcl; cases hcl
  conv => arg 3; whnf
  have hc : contents ps (.obj 0) = some (tl.map pv2) := contents_eq h0
  generalize cnts tl = cc at s1 s2 hcb hct hcl hmm hne
  refine ASs_cons (AS_if_f ?_)
  refine AB_bool (AAll_or ?_)
  refine AB_compare ?_
  refine AE_call_builtin rfl W.sum ?_
  refine AL_cons' rfl ?_
  refine AE_slice_to ?_
  (repeat walk_at "m")
  refine ⟨_, 4, hct _, by simp; omega, rfl, by decide, ?_⟩
  (repeat walk_at "m")
  refine BC_sum (ns := cc.take 4) (by rw [List.map_take]; rfl) (fun x hx => hcb x (List.mem_of_mem_take hx)) (by rw [List.length_take]; omega) ?_
  refine AE_call_builtin rfl W.len ?_
  (repeat walk_at "m")
  refine BC_len hc (by simp; omega) ?_
  (repeat walk_at "m")
  refine ⟨_, rfl, fun h => ?_, fun _ => ?_⟩
  · rw [s1] at h; simp at h
  refine AAll_or ?_
  refine AB_compare ?_
  refine AE_call_builtin rfl W.sum ?_
  refine AL_cons' rfl ?_
  refine AE_slice_from ?_
  (repeat walk_at "m")
  refine ⟨_, 4, hct _, by simp; omega, rfl, by decide, ?_⟩
  (repeat walk_at "m")
  refine BC_sum (ns := cc.drop 4) (by rw [List.map_drop]; rfl) (fun x hx => hcb x (List.mem_of_mem_drop hx)) (by rw [List.length_drop]; omega) ?_
  refine AE_call_builtin rfl W.len ?_
  (repeat walk_at "m")
  refine BC_len hc (by simp; omega) ?_
  (repeat walk_at "m")
  refine ⟨_, rfl, fun h => ?_, fun _ => ?_⟩
  · rw [s2] at h; simp at h
  obtain ⟨x, hx1, hx2⟩ := most_of cc hne
  obtain ⟨c, rfl, hc8, hcm⟩ := hmm x hx1 hx2
  refine AAll_or ?_
  refine AB_compare ?_
  refine AE_call_builtin rfl W.len ?_
  (repeat walk_at "m")
  refine BC_len hc (by simp; omega) ?_
  (repeat walk_at "m")
  refine AE_call_builtin rfl W.max ?_
  (repeat walk_at "m")
  refine BC_max (hct _) hx1 hx2 ?_
  (repeat walk_at "m")
  refine AO_mul (small_mul hc8) ?_
  (repeat walk_at "m")
  refine ⟨_, rfl, fun h => ?_, fun _ => ?_⟩
  · simp at h
    rw [← Int.natCast_mul] at h
    omega
  refine AAll_or_nil ⟨rfl, ?_⟩
  refine ASs_nil ?_
  show ASs _ _ _ _ _ _
  refine ASs_cons ?_
  refine AS_assign rfl rfl ?_
  have rest : ∀ pt, contents ps pt = some (tm.map pv2) → ASs (callCtx B (fnOf name qual (D1 "law").1 (D1 "law").2.1 (D1 "law").2.2 dV kV doc pm an cdv ct) L f) 8 ((D1 "law").2.1.drop 17)
      [some script, some (.obj 0), u, v, w1, w5, some (.lst (P.map pv2)), w6, w2, w3, some (.int P.length), w4, w7, some (.lst (cc.map .int)), some pt] ps Q := fun pt hpt => by
    conv => arg 3; whnf
    (repeat walk_at "m")
    refine AE_chain ?_
    (repeat walk_at "m")
    refine AE_call_builtin rfl W.len ?_
    refine AL_cons' rfl ?_
    refine AE_fn Ha rfl rfl ?_
    (repeat walk_at "m")
    refine (apart_ok (ties := tm) Hf Ha W.range W.lim hpt fun ep J => ?_).up (by decide)
    (repeat walk_at "m")
    refine BC_lenI (k := ps.length) (es := idm (apart tm)) (ep := ep) (by simp) (by rw [idm_length]; omega) ?_
    rw [idm_length]
    (repeat walk_at "m")
    refine AE_call_builtin rfl W.len ?_
    (repeat walk_at "m")
    refine BC_len (l := P.map pv2) rfl (by simp; omega) ?_
    (repeat walk_at "m")
    refine ⟨_, rfl, fun h => ?_, fun _ => ?_⟩
    · simp at h; omega
    · (repeat walk_at "m")
      have : decide (((apart tm).length : Int) - ((P.map pv2).length : Nat) ≤ 1) = true := by simp; omega
      rw [this]
      exact hk _ _
  refine AE_ifexp ?_
  (repeat walk_at "m")
  refine AE_tuple ?_
  (repeat walk_at "m")
  refine ⟨by simp, ?_⟩
  (repeat walk_at "m")
  refine AO_in (K := dk2) (x := (3, 3)) (l := tl) hc ?_
  refine ⟨_, rfl, fun h => ?_, fun h => ?_⟩
  · have hin : (3, 3) ∈ tl := by simpa using h
    walk_at "m"
    exact rest _ (by rw [htm, if_pos hin]; exact hc)
  · have hin : (3, 3) ∉ tl := by simpa using h
    (repeat walk_at "m")
    refine AE_list ?_
    refine AL_cons' rfl ?_
    refine AE_tuple ?_
    (repeat walk_at "m")
    refine ⟨by simp, ?_⟩
    (repeat walk_at "m")
    refine ⟨by simp, ?_⟩
    refine AO_addL hc (l' := [pv2 (3, 3)]) rfl (by simp; omega) ?_
    exact rest _ (by rw [htm, if_neg hin, List.map_append]; rfl)



/-! # Koenig, plainly -/
theorem getI_in {T : List (Int × Int)} {o w : Int} (h : getI T o = some w) : (o, w) ∈ T := by
  unfold getI at h
  cases hf : T.find? (fun e => decide (e.1 = o)) with
  | none => rw [hf] at h; cases h
  | some e =>
    rw [hf] at h
    cases h
    have h1 := List.find?_some hf
    have h2 := List.mem_of_find?_eq_some hf
    have : e.1 = o := by simpa using h1
    rw [← this]; exact h2
theorem getI_none {T : List (Int × Int)} {o : Int} (h : getI T o = none) : o ∉ T.map (·.1) := by
  intro hm
  obtain ⟨e, he, rfl⟩ := List.mem_map.mp hm
  unfold getI at h
  rw [Option.map_eq_none_iff, List.find?_eq_none] at h
  exact h e he (by simp)
theorem put_none {T : List (Int × Int)} {o v : Int} (h : getI T o = none) : putI T o v = T ++ [(o, v)] := by
  have := getI_isSome T o
  rw [h] at this
  unfold putI
  rw [← this]; rfl
theorem put_some {T : List (Int × Int)} {o v w : Int} (h : getI T o = some w) : putI T o v = T.map fun e => if e.1 = o then (e.1, v) else e := by
  have := getI_isSome T o
  rw [h] at this
  unfold putI
  rw [← this]; rfl
theorem put_keys {T : List (Int × Int)} {o v : Int} (hn : (T.map (·.1)).Nodup) : ((putI T o v).map (·.1)).Nodup := by
  cases h : getI T o with
  | none =>
    rw [put_none h, List.map_append]
    exact List.nodup_append.mpr ⟨hn, by simp, fun a ha b hb => by simp at hb; subst hb; exact fun e => getI_none h (e ▸ ha)⟩
  | some w =>
    rw [put_some h, List.map_map]
    have : ((fun x : Int × Int => x.1) ∘ fun e => if e.1 = o then (e.1, v) else e) = fun x : Int × Int => x.1 := by
      funext e; simp only [Function.comp]; split <;> rfl
    rw [this]; exact hn
theorem put_in {T : List (Int × Int)} {o v : Int} {e : Int × Int} (h : e ∈ putI T o v) : e = (o, v) ∨ e ∈ T := by
  cases hg : getI T o with
  | none =>
    rw [put_none hg] at h
    rcases List.mem_append.mp h with h | h
    · exact .inr h
    · exact .inl (by simpa using h)
  | some w =>
    rw [put_some hg] at h
    obtain ⟨x, hx, rfl⟩ := List.mem_map.mp h
    split
    · rename_i he; exact .inl (by rw [he])
    · exact .inr hx
theorem put_perm {o v w : Int} : ∀ {T : List (Int × Int)}, (T.map (·.1)).Nodup → getI T o = some w → (w :: (putI T o v).map (·.2)).Perm (v :: T.map (·.2)) := by
  intro T hn h
  rw [put_some h]
  have hm := getI_in h
  clear h
  induction T with
  | nil => cases hm
  | cons e T ih =>
    rw [List.map_cons, List.nodup_cons] at hn
    rw [List.map_cons, List.map_cons, List.map_cons]
    by_cases he : e.1 = o
    · have hw : e.2 = w := by
        rcases List.mem_cons.mp hm with h | h
        · rw [← h]
        · exact absurd (List.mem_map_of_mem (f := (·.1)) h) (he ▸ hn.1)
      have hid : (T.map fun e => if e.1 = o then (e.1, v) else e) = T := by
        conv => rhs; rw [← List.map_id T]
        refine List.map_congr_left fun x hx => ?_
        rw [if_neg]; rfl
        intro hxo
        exact hn.1 (he ▸ hxo ▸ List.mem_map_of_mem (f := (·.1)) hx)
      rw [if_pos he, hid, hw]
      exact List.Perm.swap _ _ _
    · have hm' : (o, w) ∈ T := by
        rcases List.mem_cons.mp hm with h | h
        · exact absurd (congrArg Prod.fst h).symm he
        · exact h
      rw [if_neg he]
      have := ih hn.2 hm'
      exact (List.Perm.swap _ _ _).trans ((this.cons e.2).trans (List.Perm.swap _ _ _))

/-- a matching -/
structure Mt (ties T : List (Int × Int)) : Prop where
  keys : (T.map (·.1)).Nodup
  edge : ∀ e ∈ T, (e.2, e.1) ∈ ties
theorem Mt.put {ties T : List (Int × Int)} {o v : Int} (M : Mt ties T) (h : (v, o) ∈ ties) : Mt ties (putI T o v) :=
  ⟨put_keys M.keys, fun e he => by
    rcases put_in he with rfl | he
    · exact h
    · exact M.edge e he⟩

/-- what a search gives -/
structure Fr1 (ties : List (Int × Int)) (one : Int) (T : List (Int × Int)) (S : List Int) (r : Bool × List (Int × Int) × List Int) : Prop where
  fail : r.1 = false → r.2.1 = T
  seen : ∀ o ∈ S, getI r.2.1 o = getI T o
  mt : Mt ties r.2.1
  rows : r.1 = true → (r.2.1.map (·.2)).Perm (one :: T.map (·.2))
theorem cols_fr {rec : Int → List (Int × Int) → List Int → Bool × List (Int × Int) × List Int} {ties : List (Int × Int)} {one : Int} (hr : ∀ w T S, Mt ties T → Fr1 ties w T S (rec w T S)) (hs : ∀ w T S, ∀ x ∈ S, x ∈ (rec w T S).2.2) :
    ∀ l T S, Mt ties T → Fr1 ties one T S (cols rec ties one l T S)
  | [], T, S, M => ⟨fun _ => rfl, fun _ _ => rfl, M, fun h => (by cases h)⟩
  | o :: r, T, S, M => by
    unfold cols
    split
    · rename_i hc
      cases hg : getI T o with
      | none =>
        simp only
        refine ⟨fun h => (by cases h), fun o' ho' => ?_, M.put hc.1, fun _ => ?_⟩
        · rw [getI_put, if_neg (fun e : o' = o => hc.2 (e ▸ ho'))]
        · rw [put_none hg, List.map_append]
          exact List.perm_append_comm
      | some w =>
        simp only
        have h1 := hr w T (S ++ [o]) M
        have h0 := hs w T (S ++ [o])
        match hq : rec w T (S ++ [o]) with
        | (true, T', S') =>
          rw [hq] at h1
          have hgo : getI T' o = some w := (h1.seen o (by simp)).trans hg
          refine ⟨fun h => (by cases h), fun o' ho' => ?_, h1.mt.put hc.1, fun _ => ?_⟩
          · show getI (putI T' o one) o' = _
            rw [getI_put, if_neg (fun e : o' = o => hc.2 (e ▸ ho'))]
            exact h1.seen o' (List.mem_append_left _ ho')
          · have p1 := put_perm (v := one) h1.mt.keys hgo
            have p2 := h1.rows rfl
            have p3 := p1.trans ((p2.cons one).trans (List.Perm.swap _ _ _))
            exact p3.cons_inv
        | (false, T', S') =>
          rw [hq] at h1 h0
          have e : T' = T := h1.fail rfl
          subst e
          have h2 := cols_fr (one := one) hr hs r T' S' M
          exact ⟨h2.fail, fun o' ho' => h2.seen o' (h0 o' (List.mem_append_left _ ho')), h2.mt, h2.rows⟩
    · exact cols_fr hr hs r T S M
theorem free_fr (ties : List (Int × Int)) : ∀ k w T S, Mt ties T → Fr1 ties w T S (free ties k w T S)
  | 0, w, T, S, M => ⟨fun _ => rfl, fun _ _ => rfl, M, fun h => (by cases h)⟩
  | k + 1, w, T, S, M => cols_fr (free_fr ties k) (free_sub ties k) C4 T S M

/-- closed: every column is taken by a row whose columns are all in it -/
def Dead (ties T : List (Int × Int)) (Z : Int → Prop) : Prop := ∀ o, Z o → ∃ w, getI T o = some w ∧ ∀ o', (w, o') ∈ ties → Z o'
theorem cols_dead {rec : Int → List (Int × Int) → List Int → Bool × List (Int × Int) × List Int} {ties T : List (Int × Int)} {one : Int} {Z : Int → Prop} (hZ : Dead ties T Z) (hf : ∀ w S, (rec w T S).1 = false → (rec w T S).2.1 = T)
    (hr : ∀ w S, (∀ o, (w, o) ∈ ties → Z o) → (rec w T S).1 = false) (h1 : ∀ o, (one, o) ∈ ties → Z o) : ∀ l S, (cols rec ties one l T S).1 = false
  | [], S => rfl
  | o :: r, S => by
    unfold cols
    split
    · rename_i hc
      obtain ⟨w, hw, hn⟩ := hZ o (h1 o hc.1)
      rw [hw]
      simp only
      have h2 := hr w (S ++ [o]) hn
      have h3 := hf w (S ++ [o]) h2
      match hq : rec w T (S ++ [o]) with
      | (true, T', S') => rw [hq] at h2; cases h2
      | (false, T', S') =>
        rw [hq] at h3
        have e : T' = T := h3
        subst e
        exact cols_dead hZ hf hr h1 r S'
    · exact cols_dead hZ hf hr h1 r S
theorem free_dead {ties T : List (Int × Int)} {Z : Int → Prop} (M : Mt ties T) (hZ : Dead ties T Z) : ∀ k one S, (∀ o, (one, o) ∈ ties → Z o) → (free ties k one T S).1 = false
  | 0, one, S, _ => rfl
  | k + 1, one, S, h => cols_dead hZ (fun w S => (free_fr ties k w T S M).fail) (free_dead M hZ k) h C4 S
theorem cols_keep {rec : Int → List (Int × Int) → List Int → Bool × List (Int × Int) × List Int} {ties T : List (Int × Int)} {one : Int} {Z : Int → Prop} (hZ : Dead ties T Z) (hf : ∀ w S, (rec w T S).1 = false → (rec w T S).2.1 = T)
    (hd : ∀ w S, (∀ o, (w, o) ∈ ties → Z o) → (rec w T S).1 = false) (hr : ∀ w S o, Z o → getI (rec w T S).2.1 o = getI T o) : ∀ l S o, Z o → getI (cols rec ties one l T S).2.1 o = getI T o
  | [], S, o', h => rfl
  | o :: r, S, o', h => by
    unfold cols
    split
    · rename_i hc
      cases hg : getI T o with
      | none =>
        simp only
        rw [getI_put, if_neg]
        intro e; subst e
        obtain ⟨w, hw, _⟩ := hZ o' h
        rw [hw] at hg; cases hg
      | some w =>
        simp only
        have h1 := hr w (S ++ [o])
        have h2 := hd w (S ++ [o])
        have h3 := hf w (S ++ [o])
        match hq : rec w T (S ++ [o]) with
        | (true, T', S') =>
          rw [hq] at h1 h2
          show getI (putI T' o one) o' = _
          rw [getI_put, if_neg]
          · exact h1 o' h
          · intro e; subst e
            obtain ⟨w', hw', hn⟩ := hZ o' h
            rw [hw'] at hg; cases hg
            have := h2 hn
            cases this
        | (false, T', S') =>
          rw [hq] at h3
          have e : T' = T := h3 rfl
          subst e
          exact cols_keep hZ hf hd hr r S' o' h
    · exact cols_keep hZ hf hd hr r S o' h
theorem free_keep {ties T : List (Int × Int)} {Z : Int → Prop} (M : Mt ties T) (hZ : Dead ties T Z) : ∀ k one S o, Z o → getI (free ties k one T S).2.1 o = getI T o
  | 0, one, S, o, _ => rfl
  | k + 1, one, S, o, h => cols_keep hZ (fun w S => (free_fr ties k w T S M).fail) (free_dead M hZ k) (free_keep M hZ k) C4 S o h

/-- a search that fails leaves a closed set behind it -/
def Left (ties T : List (Int × Int)) (S S' : List Int) : Prop := ∀ o ∈ S', o ∈ S ∨ ∃ w, getI T o = some w ∧ ∀ o', (w, o') ∈ ties → o' ∈ S'
theorem cols_left {rec : Int → List (Int × Int) → List Int → Bool × List (Int × Int) × List Int} {ties T : List (Int × Int)} {one : Int} {k : Nat} (hf : ∀ w S, (rec w T S).1 = false → (rec w T S).2.1 = T) (hs : ∀ w T S, ∀ x ∈ S, x ∈ (rec w T S).2.2)
    (hr : ∀ w S, unseen S < k → (rec w T S).1 = false → (∀ o, (w, o) ∈ ties → o ∈ (rec w T S).2.2) ∧ Left ties T S (rec w T S).2.2) : ∀ l S, (∀ o ∈ l, o ∈ C4) → unseen S ≤ k → (cols rec ties one l T S).1 = false →
      (∀ o ∈ l, (one, o) ∈ ties → o ∈ (cols rec ties one l T S).2.2) ∧ Left ties T S (cols rec ties one l T S).2.2
  | [], S, _, _, _ => ⟨fun o h => (by cases h), fun o h => .inl h⟩
  | o :: r, S, hl, hu, hb => by
    unfold cols at hb ⊢
    split at hb
    · rename_i hc
      rw [if_pos hc]
      cases hg : getI T o with
      | none => rw [hg] at hb; cases hb
      | some w =>
        rw [hg] at hb
        simp only at hb ⊢
        have hlt := unseen_add (hl o (.head _)) hc.2
        have h1 := hr w (S ++ [o]) (by omega)
        have h2 := hf w (S ++ [o])
        have h3 := hs w T (S ++ [o])
        match hq : rec w T (S ++ [o]) with
        | (true, T', S') => rw [hq] at hb; cases hb
        | (false, T', S') =>
          rw [hq] at h1 h2 h3 hb
          have e : T' = T := h2 rfl
          subst e
          obtain ⟨h4, h5⟩ := h1 rfl
          have hmono := unseen_mono (S := S) (S' := S') fun x hx => h3 x (List.mem_append_left _ hx)
          obtain ⟨i1, i2⟩ := cols_left (one := one) hf hs hr r S' (fun x hx => hl x (.tail _ hx)) (by omega) hb
          have hin : ∀ x ∈ S', x ∈ (cols rec ties one r T' S').2.2 := fun x hx => cols_sub hs r T' S' x hx
          refine ⟨fun o' ho' ht => ?_, fun o' ho' => ?_⟩
          · rcases List.mem_cons.mp ho' with rfl | ho'
            · exact hin _ (h3 _ (by simp))
            · exact i1 o' ho' ht
          · rcases i2 o' ho' with h | h
            · rcases h5 o' h with h | ⟨w', hw', hn⟩
              · rcases List.mem_append.mp h with h | h
                · exact .inl h
                · have : o' = o := by simpa using h
                  subst this
                  exact .inr ⟨w, hg, fun x hx => hin x (h4 x hx)⟩
              · exact .inr ⟨w', hw', fun x hx => hin x (hn x hx)⟩
            · exact .inr h
    · rename_i hc
      rw [if_neg hc]
      obtain ⟨i1, i2⟩ := cols_left (one := one) hf hs hr r S (fun x hx => hl x (.tail _ hx)) hu hb
      refine ⟨fun o' ho' ht => ?_, i2⟩
      rcases List.mem_cons.mp ho' with rfl | ho'
      · have hin : o' ∈ S := Classical.byContradiction fun hn => hc ⟨ht, hn⟩
        exact cols_sub hs r T S o' hin
      · exact i1 o' ho' ht
theorem free_left {ties T : List (Int × Int)} (hs : ∀ x ∈ ties, Small x) (M : Mt ties T) : ∀ k one S, unseen S < k → (free ties k one T S).1 = false → (∀ o, (one, o) ∈ ties → o ∈ (free ties k one T S).2.2) ∧ Left ties T S (free ties k one T S).2.2
  | 0, one, S, h, _ => by omega
  | k + 1, one, S, h, hb => by
    obtain ⟨h1, h2⟩ := cols_left (one := one) (fun w S => (free_fr ties k w T S M).fail) (free_sub ties k) (free_left hs M k) C4 S (fun _ h => h) (by omega) hb
    refine ⟨fun o ho => h1 o ?_ ho, h2⟩
    have := (hs _ ho).2
    simp only [C4, List.mem_cons, List.not_mem_nil, or_false]
    omega



/-! # the matching and its cover -/
structure Mx (ties T : List (Int × Int)) (R : List Int) : Prop where
  mt : Mt ties T
  rows : (T.map (·.2)).Nodup
  inR : ∀ r ∈ T.map (·.2), r ∈ R
  dead : ∀ r ∈ R, r ∉ T.map (·.2) → ∃ Z, Dead ties T Z ∧ ∀ o, (r, o) ∈ ties → Z o
theorem length_of_nodup' {l l' : List Int} (h : l.Nodup) (h' : l'.Nodup) (hm : ∀ x, x ∈ l ↔ x ∈ l') : l.length = l'.length := ((List.perm_ext_iff_of_nodup h h').mpr hm).length_eq
theorem mx_step {ties T : List (Int × Int)} {R : List Int} {one : Int} (hs : ∀ x ∈ ties, Small x) (M : Mx ties T R) (hn : one ∉ R) : Mx ties (free ties 5 one T []).2.1 (R ++ [one]) := by
  have F := free_fr ties 5 one T [] M.mt
  have K := fun Z (hZ : Dead ties T Z) => free_keep M.mt hZ 5 one []
  have G := free_left hs M.mt 5 one [] (by decide)
  match hq : free ties 5 one T [] with
  | (true, T', S') =>
    rw [hq] at F K
    have p := F.rows rfl
    refine ⟨F.mt, ?_, fun r hr => ?_, fun r hr hu => ?_⟩
    · exact (p.nodup_iff).mpr (List.nodup_cons.mpr ⟨fun h => hn (M.inR _ h), M.rows⟩)
    · rcases List.mem_cons.mp (p.mem_iff.mp hr) with rfl | h
      · simp
      · exact List.mem_append_left _ (M.inR r h)
    · have h1 : r ∉ one :: T.map (·.2) := fun h => hu (p.mem_iff.mpr h)
      have h2 : r ∈ R := by
        rcases List.mem_append.mp hr with h | h
        · exact h
        · exact absurd (by simpa using h) (fun e : r = one => h1 (e ▸ .head _))
      obtain ⟨Z, hZ, hN⟩ := M.dead r h2 fun h => h1 (.tail _ h)
      refine ⟨Z, fun o ho => ?_, hN⟩
      obtain ⟨w, hw, hc⟩ := hZ o ho
      exact ⟨w, (K Z hZ o ho).trans hw, hc⟩
  | (false, T', S') =>
    rw [hq] at F G
    have e : T' = T := F.fail rfl
    subst e
    obtain ⟨g1, g2⟩ := G rfl
    refine ⟨M.mt, M.rows, fun r hr => List.mem_append_left _ (M.inR r hr), fun r hr hu => ?_⟩
    rcases List.mem_append.mp hr with h | h
    · exact M.dead r h hu
    · have : r = one := by simpa using h
      subst this
      refine ⟨fun o => o ∈ S', fun o ho => ?_, g1⟩
      rcases g2 o ho with h | h
      · cases h
      · exact h
theorem mx_to {ties : List (Int × Int)} (hs : ∀ x ∈ ties, Small x) : ∀ i : Nat, i ≤ 4 → Mx ties (apartTo ties i) (C4.take i)
  | 0, _ => ⟨⟨List.nodup_nil, fun e h => (by cases h)⟩, List.nodup_nil, fun r h => (by cases h), fun r h => (by cases h)⟩
  | i + 1, h => by
    rw [apartTo_succ ties i (by omega)]
    have hi : i < 4 := by omega
    have e : C4.take (i + 1) = C4.take i ++ [(i : Int)] := by
      rcases (by omega : i = 0 ∨ i = 1 ∨ i = 2 ∨ i = 3) with rfl | rfl | rfl | rfl <;> rfl
    rw [e]
    refine mx_step hs (mx_to hs i (by omega)) ?_
    rcases (by omega : i = 0 ∨ i = 1 ∨ i = 2 ∨ i = 3) with rfl | rfl | rfl | rfl <;> decide
theorem mx_all {ties : List (Int × Int)} (hs : ∀ x ∈ ties, Small x) : Mx ties (apart ties) C4 := mx_to hs 4 (by omega)

/-- the closed set of all that the free rows reach -/
def Zall (ties T : List (Int × Int)) (o : Int) : Prop := ∃ Z, Dead ties T Z ∧ Z o
theorem zall_dead (ties T : List (Int × Int)) : Dead ties T (Zall ties T) := fun o ⟨Z, hZ, ho⟩ => by
  obtain ⟨w, hw, hn⟩ := hZ o ho
  exact ⟨w, hw, fun o' ho' => ⟨Z, hZ, hn o' ho'⟩⟩
structure Mi (ties T : List (Int × Int)) (s : List Int × List Int) : Prop where
  start : ∀ r ∈ left0 T, r ∈ s.1
  four : ∀ r ∈ s.1, r ∈ C4
  near : ∀ r ∈ s.1, ∀ o, (r, o) ∈ ties → Zall ties T o
  right : ∀ o ∈ s.2, ∃ w, getI T o = some w ∧ w ∈ s.1
  nodup : s.2.Nodup
  why : ∀ r ∈ s.1, r ∈ left0 T ∨ ∃ o ∈ s.2, getI T o = some r
theorem mi_step {ties T : List (Int × Int)} {s : List Int × List Int} {one o : Int} (M : Mx ties T C4) (I : Mi ties T s) (h1 : one ∈ s.1) : Mi ties T (mstep ties T one s o) ∧ (∀ x ∈ s.1, x ∈ (mstep ties T one s o).1) ∧ (∃ X, (mstep ties T one s o).1 = s.1 ++ X) ∧ (∀ x ∈ s.2, x ∈ (mstep ties T one s o).2) ∧ ((one, o) ∈ ties → o ∈ (mstep ties T one s o).2) := by
  unfold mstep
  split
  · rename_i hc
    obtain ⟨w, hw, hn⟩ := zall_dead ties T o (I.near one h1 o hc.1)
    have hw4 : w ∈ C4 := M.inR w (List.mem_map_of_mem (f := (·.2)) (getI_in hw))
    rw [hw]
    simp only
    have nd : (s.2 ++ [o]).Nodup := List.nodup_append.mpr ⟨I.nodup, by simp, fun a ha b hb => by simp at hb; subst hb; exact fun e => hc.2 (e ▸ ha)⟩
    split
    · refine ⟨⟨fun r hr => List.mem_append_left _ (I.start r hr), fun r hr => ?_, fun r hr => ?_, fun o' ho' => ?_, nd, fun r hr => ?_⟩, fun x hx => List.mem_append_left _ hx, ⟨[w], rfl⟩, fun x hx => List.mem_append_left _ hx, fun _ => by simp⟩
      · rcases List.mem_append.mp hr with h | h
        · exact I.four r h
        · have : r = w := by simpa using h
          exact this ▸ hw4
      · rcases List.mem_append.mp hr with h | h
        · exact I.near r h
        · have : r = w := by simpa using h
          exact this ▸ hn
      · rcases List.mem_append.mp ho' with h | h
        · obtain ⟨w', e, hm⟩ := I.right o' h
          exact ⟨w', e, List.mem_append_left _ hm⟩
        · have : o' = o := by simpa using h
          exact ⟨w, this ▸ hw, by simp⟩
      · rcases List.mem_append.mp hr with h | h
        · rcases I.why r h with h | ⟨o', ho', e⟩
          · exact .inl h
          · exact .inr ⟨o', List.mem_append_left _ ho', e⟩
        · have : r = w := by simpa using h
          exact .inr ⟨o, by simp, this ▸ hw⟩
    · rename_i hin
      have hin : w ∈ s.1 := Classical.byContradiction hin
      refine ⟨⟨I.start, I.four, I.near, fun o' ho' => ?_, nd, fun r hr => ?_⟩, fun x hx => hx, ⟨[], by simp⟩, fun x hx => List.mem_append_left _ hx, fun _ => by simp⟩
      · rcases List.mem_append.mp ho' with h | h
        · exact I.right o' h
        · have : o' = o := by simpa using h
          exact ⟨w, this ▸ hw, hin⟩
      · rcases I.why r hr with h | ⟨o', ho', e⟩
        · exact .inl h
        · exact .inr ⟨o', List.mem_append_left _ ho', e⟩
  · rename_i hc
    exact ⟨I, fun x hx => hx, ⟨[], by simp⟩, fun x hx => hx, fun ht => Classical.byContradiction fun hn => hc ⟨ht, hn⟩⟩
theorem mi_fold {ties T : List (Int × Int)} {one : Int} (M : Mx ties T C4) : ∀ (l : List Int) {s : List Int × List Int}, Mi ties T s → one ∈ s.1 →
    Mi ties T (l.foldl (mstep ties T one) s) ∧ (∃ X, (l.foldl (mstep ties T one) s).1 = s.1 ++ X) ∧ (∀ x ∈ s.2, x ∈ (l.foldl (mstep ties T one) s).2) ∧ ∀ o ∈ l, (one, o) ∈ ties → o ∈ (l.foldl (mstep ties T one) s).2
  | [], s, I, h => ⟨I, ⟨[], by simp⟩, fun x hx => hx, fun o ho => by cases ho⟩
  | o :: l, s, I, h => by
    obtain ⟨i1, i2, ⟨X, i3⟩, i4, i5⟩ := mi_step (o := o) M I h
    obtain ⟨j1, ⟨Y, j2⟩, j3, j4⟩ := mi_fold M l i1 (i2 _ h)
    refine ⟨j1, ⟨X ++ Y, by rw [List.foldl_cons, j2, i3, List.append_assoc]⟩, fun x hx => j3 x (i4 x hx), fun o' ho' ht => ?_⟩
    rcases List.mem_cons.mp ho' with rfl | ho'
    · exact j3 _ (i5 ht)
    · exact j4 o' ho' ht
theorem mi_loop {ties T : List (Int × Int)} (hs : ∀ x ∈ ties, Small x) (M : Mx ties T C4) : ∀ (f i : Nat) (s : List Int × List Int), Mi ties T s → mfit s → f + i = 9 → (∀ (j : Nat) r, j < i → s.1[j]? = some r → ∀ o, (r, o) ∈ ties → o ∈ s.2) →
    Mi ties T (mloop ties T f i s) ∧ ∀ r ∈ (mloop ties T f i s).1, ∀ o, (r, o) ∈ ties → o ∈ (mloop ties T f i s).2
  | 0, i, s, I, hf, hi, hp => by
    refine ⟨I, fun r hr => ?_⟩
    obtain ⟨j, hj⟩ := List.mem_iff_getElem?.mp hr
    have hl : s.1.length ≤ 8 := by have := hf.1; have := hf.2; omega
    have := (List.getElem?_eq_some_iff.mp hj).1
    exact hp j r (by have : j < s.1.length := this; omega) hj
  | f + 1, i, s, I, hf, hi, hp => by
    unfold mloop
    cases hx : s.1[i]? with
    | none =>
      refine ⟨I, fun r hr => ?_⟩
      obtain ⟨j, hj⟩ := List.mem_iff_getElem?.mp hr
      rw [List.getElem?_eq_none_iff] at hx
      have := (List.getElem?_eq_some_iff.mp hj).1
      exact hp j r (by have : j < s.1.length := this; omega) hj
    | some one =>
      simp only
      have h1 : one ∈ s.1 := List.mem_of_getElem? hx
      obtain ⟨j1, ⟨X, j2⟩, j3, j4⟩ := mi_fold M C4 I h1
      refine mi_loop hs M f (i + 1) (mrow ties T one s) j1 (mfit_fold C4 (fun _ h => h) hf) (by omega) fun j r hj hr o ho => ?_
      have hil := (List.getElem?_eq_some_iff.mp hx).1
      have hr' : s.1[j]? = some r := by
        have e : (mrow ties T one s).1 = s.1 ++ X := j2
        rw [e, List.getElem?_append_left (by omega)] at hr
        exact hr
      by_cases hji : j < i
      · exact j3 o (hp j r hji hr' o ho)
      · have : j = i := by omega
        subst this
        rw [hx] at hr'; cases hr'
        refine j4 o ?_ ho
        have := (hs _ ho).2
        simp only [C4, List.mem_cons, List.not_mem_nil, or_false]
        omega
theorem left0_mem {T : List (Int × Int)} {r : Int} : r ∈ left0 T ↔ r ∈ C4 ∧ r ∉ T.map (·.2) := by
  unfold left0
  rw [List.mem_filter]
  simp
theorem mi_start {ties T : List (Int × Int)} (M : Mx ties T C4) : Mi ties T (left0 T, []) :=
  ⟨fun r h => h, fun r h => (left0_mem.mp h).1, fun r h o ho => by
    obtain ⟨Z, hZ, hN⟩ := M.dead r (left0_mem.mp h).1 (left0_mem.mp h).2
    exact ⟨Z, hZ, hN o ho⟩, fun o h => (by cases h), List.nodup_nil, fun r h => .inl h⟩
theorem nodup_sub_length : ∀ {l l' : List Int}, l.Nodup → (∀ x ∈ l, x ∈ l') → l.length ≤ l'.length
  | [], _, _, _ => Nat.zero_le _
  | a :: l, l', hn, hs => by
    rw [List.nodup_cons] at hn
    have ha := hs a (.head _)
    have h1 := nodup_sub_length (l := l) (l' := l'.erase a) hn.2 fun x hx => (List.mem_erase_of_ne (fun e : x = a => hn.1 (e ▸ hx))).mpr (hs x (.tail _ hx))
    rw [List.length_erase_of_mem ha] at h1
    have : 0 < l'.length := List.length_pos_of_mem ha
    simp only [List.length_cons]; omega
theorem nodup_map {α β : Type} {f : α → β} {l : List α} (hn : l.Nodup) (hi : ∀ a ∈ l, ∀ b ∈ l, f a = f b → a = b) : (l.map f).Nodup := by
  rw [List.nodup_iff_pairwise_ne, List.pairwise_map]
  refine (List.nodup_iff_pairwise_ne.mp hn).imp_of_mem ?_
  intro a b ha hb hab e
  exact hab (hi a ha b hb e)
theorem inj_of_nodup {T : List (Int × Int)} (hr : (T.map (·.2)).Nodup) {a b : Int × Int} (ha : a ∈ T) (hb : b ∈ T) (e : a.2 = b.2) : a = b := by
  induction T with
  | nil => cases ha
  | cons x T ih =>
    rw [List.map_cons, List.nodup_cons] at hr
    rcases List.mem_cons.mp ha with rfl | ha'
    · rcases List.mem_cons.mp hb with rfl | hb
      · rfl
      · have h : b.2 ∈ T.map (·.2) := List.mem_map_of_mem hb
        rw [← e] at h
        exact absurd h hr.1
    · rcases List.mem_cons.mp hb with rfl | hb
      · have h : a.2 ∈ T.map (·.2) := List.mem_map_of_mem ha'
        rw [e] at h
        exact absurd h hr.1
      · exact ih hr.2 ha' hb

structure Kg (ties T : List (Int × Int)) (Lm R : List Int) : Prop where
  edge : ∀ e ∈ T, (e.2, e.1) ∈ ties
  cols : (T.map (·.1)).Nodup
  rows : (T.map (·.2)).Nodup
  cov : ∀ x ∈ ties, x.1 ∈ Lm → x.2 ∈ R
  four : T.length ≤ 4
  fourR : R.length ≤ 4
  size : (C4.filter fun one => !decide (one ∈ Lm)).length + R.length = T.length
theorem koenig {ties : List (Int × Int)} (hs : ∀ x ∈ ties, Small x) : Kg ties (apart ties) (meetLR ties (apart ties)).1 (meetLR ties (apart ties)).2 := by
  have M := mx_all hs
  have hfit0 : mfit (left0 (apart ties), []) := ⟨List.length_filter_le _ _, (by decide : ([] : List Int).length + unseen [] ≤ 4)⟩
  obtain ⟨I, hI⟩ := mi_loop hs M 9 0 (left0 (apart ties), []) (mi_start M) hfit0 rfl fun j r h => by omega
  have e0 : mloop ties (apart ties) 9 0 (left0 (apart ties), []) = meetLR ties (apart ties) := rfl
  rw [e0] at I hI
  generalize apart ties = T at *
  generalize meetLR ties T = s at *
  have key : (C4.filter fun one => !decide (one ∈ s.1)).length + s.2.length = T.length := by
    have hA : ((C4.filter fun one => !decide (one ∈ s.1)) ++ s.2.map fun o => (getI T o).getD 0).length = (T.map (·.2)).length := by
      refine length_of_nodup' ?_ M.rows fun r => ?_
      · refine List.nodup_append.mpr ⟨?_, ?_, ?_⟩
        · exact List.Nodup.sublist List.filter_sublist (by decide)
        · refine nodup_map I.nodup fun a ha b hb e => ?_
          obtain ⟨w, hw, _⟩ := I.right a ha
          obtain ⟨w', hw', _⟩ := I.right b hb
          rw [hw, hw'] at e
          have e : w = w' := e
          subst e
          have := inj_of_nodup M.rows (getI_in hw) (getI_in hw') rfl
          exact congrArg Prod.fst this
        · intro a ha b hb e
          obtain ⟨o, ho, rfl⟩ := List.mem_map.mp hb
          obtain ⟨w, hw, hin⟩ := I.right o ho
          rw [hw] at e
          have e : a = w := e
          subst e
          have := (List.mem_filter.mp ha).2
          simp [hin] at this
      · rw [List.mem_append, List.mem_filter, List.mem_map]
        constructor
        · rintro (⟨h4, hn⟩ | ⟨o, ho, rfl⟩)
          · have hn : r ∉ s.1 := by simpa using hn
            exact Classical.byContradiction fun hu => hn (I.start r (left0_mem.mpr ⟨h4, hu⟩))
          · obtain ⟨w, hw, _⟩ := I.right o ho
            rw [hw]
            exact List.mem_map_of_mem (f := (·.2)) (getI_in hw)
        · intro hr
          by_cases hL : r ∈ s.1
          · rcases I.why r hL with h | ⟨o, ho, e⟩
            · exact absurd hr (left0_mem.mp h).2
            · exact .inr ⟨o, ho, by rw [e]; rfl⟩
          · exact .inl ⟨M.inR r hr, by simpa using hL⟩
    rw [List.length_append, List.length_map, List.length_map] at hA
    exact hA
  have h4 : T.length ≤ 4 := by
    have : (T.map (·.2)).length ≤ C4.length := nodup_sub_length M.rows M.inR
    rw [List.length_map] at this
    exact this
  exact ⟨M.mt.edge, M.mt.keys, M.rows, fun x hx hL => hI x.1 hL x.2 hx, h4, by omega, key⟩



/-! # the least cover -/
def Cov (tl : List (Int × Int)) (K : List Int) : Prop := ∀ x ∈ tl, x.1 ∈ K ∨ x.2 + 4 ∈ K
theorem covers_iff (tl : List (Int × Int)) (K : List Int) : covers tl K = true ↔ Cov tl K := by
  unfold covers Cov
  rw [List.all_eq_true]
  refine forall_congr' fun x => forall_congr' fun _ => ?_
  simp
/-- a matching is no larger than a cover -/
theorem mt_le_cov {tl T : List (Int × Int)} {Lm R K : List Int} (hs : ∀ x ∈ tl, Small x) (G : Kg tl T Lm R) (hc : Cov tl K) : T.length ≤ K.length := by
  have e : T.length = (T.map fun e => if e.2 ∈ K then e.2 else e.1 + 4).length := by simp
  rw [e]
  refine nodup_sub_length ?_ fun k hk => ?_
  · have h1 := List.nodup_iff_pairwise_ne.mp G.cols
    have h2 := List.nodup_iff_pairwise_ne.mp G.rows
    rw [List.pairwise_map] at h1 h2
    rw [List.nodup_iff_pairwise_ne, List.pairwise_map]
    refine (h1.and h2).imp_of_mem ?_
    intro a b ha hb hab e
    have sa := hs _ (G.edge a ha)
    have sb := hs _ (G.edge b hb)
    unfold Small at sa sb
    obtain ⟨n1, n2⟩ := hab
    simp only at sa sb
    split at e
    · split at e
      · exact n2 e
      · omega
    · split at e
      · omega
      · exact n1 (by omega)
  · obtain ⟨e, he, rfl⟩ := List.mem_map.mp hk
    split
    · assumption
    · rename_i hn
      exact (hc _ (G.edge e he)).resolve_left hn
def kcov (Lm R : List Int) : List Int := (C4.filter fun one => !decide (one ∈ Lm)) ++ R.map (· + 4)
theorem kcov_cov {tl T : List (Int × Int)} {Lm R : List Int} (hs : ∀ x ∈ tl, Small x) (G : Kg tl T Lm R) : Cov tl (kcov Lm R) := fun x hx => by
  unfold kcov
  by_cases h : x.1 ∈ Lm
  · exact .inr (List.mem_append_right _ (List.mem_map.mpr ⟨x.2, G.cov x hx h, rfl⟩))
  · refine .inl (List.mem_append_left _ (List.mem_filter.mpr ⟨?_, by simpa using h⟩))
    have := (hs x hx).1
    simp only [C4, List.mem_cons, List.not_mem_nil, or_false]
    omega
theorem kcov_length {tl T : List (Int × Int)} {Lm R : List Int} (G : Kg tl T Lm R) : (kcov Lm R).length = T.length := by
  unfold kcov; rw [List.length_append, List.length_map]; exact G.size

theorem bits : ∀ (m : Nat) (p : Nat → Bool), ∃ n, n < 2 ^ m ∧ ∀ k, k < m → (n / 2 ^ k % 2 = 1 ↔ p k = true)
  | 0, _ => ⟨0, by decide, fun k h => absurd h (Nat.not_lt_zero k)⟩
  | m + 1, p => by
    obtain ⟨n, h1, h2⟩ := bits m fun k => p (k + 1)
    have hb : ∃ b, b ≤ 1 ∧ (b = 1 ↔ p 0 = true) := by
      cases p 0 with
      | false => exact ⟨0, by decide, by decide⟩
      | true => exact ⟨1, by decide, by decide⟩
    obtain ⟨b, hb1, hb2⟩ := hb
    refine ⟨2 * n + b, by rw [Nat.pow_succ]; omega, fun k hk => ?_⟩
    cases k with
    | zero => rw [Nat.pow_zero, Nat.div_one, ← hb2]; omega
    | succ k =>
      have e : (2 * n + b) / 2 ^ (k + 1) = n / 2 ^ k := by
        rw [Nat.pow_succ', ← Nat.div_div_eq_div_mul]
        congr 1; omega
      rw [e]
      exact h2 k (Nat.lt_of_succ_lt_succ hk)
/-- every choice of the eight places has a number -/
theorem lot_number (p : Int → Bool) : ∃ n : Nat, n < 256 ∧ ∀ k ∈ C8, (((n : Int).fdiv (2 ^ k.toNat)).fmod 2 = 1 ↔ p k = true) := by
  obtain ⟨n, h1, h2⟩ := bits 8 fun k => p k
  refine ⟨n, h1, fun k hk => ?_⟩
  have hk8 : 0 ≤ k ∧ k < 8 := by
    have : ∀ k ∈ C8, 0 ≤ k ∧ k < 8 := by decide
    exact this k hk
  have h3 := h2 k.toNat (by omega)
  rw [Int.toNat_of_nonneg hk8.1] at h3
  rw [← h3, show (2 : Int) ^ k.toNat = ((2 ^ k.toNat : Nat) : Int) by rw [Int.natCast_pow]; rfl, Int.fdiv_eq_ediv_of_nonneg _ (Int.natCast_nonneg _), Int.fmod_eq_emod_of_nonneg _ (by decide), ← Int.natCast_ediv]
  generalize n / 2 ^ k.toNat = q
  omega
theorem few_ge {tl : List (Int × Int)} {n : Nat} (h8 : n ≤ 8) (h : ∀ K, Cov tl K → n ≤ K.length) : ∀ i, n ≤ few tl i
  | 0 => h8
  | i + 1 => by
    unfold few
    split
    · rename_i hc; exact h _ ((covers_iff _ _).mp hc.2)
    · exact few_ge h8 h i
theorem few_mono (tl : List (Int × Int)) (i : Nat) : few tl (i + 1) ≤ few tl i := by
  conv => lhs; unfold few
  split
  · rename_i hc; omega
  · exact Nat.le_refl _
theorem few_at {tl : List (Int × Int)} {j : Nat} (hc : Cov tl (lotI j)) : ∀ i, j < i → few tl i ≤ (lotI j).length
  | 0, h => by omega
  | i + 1, h => by
    by_cases hj : j = i
    · subst hj
      unfold few
      split
      · exact Nat.le_refl _
      · rename_i hn
        have := (covers_iff _ _).mpr hc
        exact Nat.le_of_not_lt fun hl => hn ⟨hl, this⟩
    · exact Nat.le_trans (few_mono tl i) (few_at hc i (by omega))
theorem few_all {tl T : List (Int × Int)} {Lm R : List Int} (hs : ∀ x ∈ tl, Small x) (G : Kg tl T Lm R) : few tl 256 = T.length := by
  refine Nat.le_antisymm ?_ (few_ge (by have := G.four; omega) (fun K hK => mt_le_cov hs G hK) 256)
  obtain ⟨n, hn, hb⟩ := lot_number fun k => decide (k ∈ kcov Lm R)
  have hmem : ∀ k, k ∈ lotI n ↔ k ∈ C8 ∧ k ∈ kcov Lm R := fun k => by
    unfold lotI
    rw [List.mem_filter]
    refine and_congr_right fun hk => ?_
    rw [decide_eq_true_eq, hb k hk, decide_eq_true_eq]
  have hcov : Cov tl (lotI n) := fun x hx => by
    have sx := hs x hx
    unfold Small at sx
    rcases kcov_cov hs G x hx with h | h
    · refine .inl ((hmem _).mpr ⟨?_, h⟩)
      simp only [C8, List.mem_cons, List.not_mem_nil, or_false]; omega
    · refine .inr ((hmem _).mpr ⟨?_, h⟩)
      simp only [C8, List.mem_cons, List.not_mem_nil, or_false]; omega
  refine Nat.le_trans (few_at hcov 256 hn) ?_
  rw [← kcov_length G]
  exact nodup_sub_length (List.Nodup.sublist List.filter_sublist (by decide)) fun k hk => ((hmem k).mp hk).2
/-- all ties are no more than the most of one place by a cover's size -/
theorem cov_count {x : Nat} : ∀ (K : List Int) (tl : List (Int × Int)), (∀ y ∈ tl, Small y) → (∀ j, j < 8 → cnt tl j ≤ x) → Cov tl K → tl.length ≤ x * K.length
  | [], tl, _, _, hc => by
    cases tl with
    | nil => exact Nat.zero_le _
    | cons y tl => rcases hc y (.head _) with h | h <;> cases h
  | k :: K, tl, hs, hx, hc => by
    have hcnt : (tl.filter fun y => decide (y.1 = k) || decide (y.2 + 4 = k)).length ≤ x := by
      by_cases hk : 0 ≤ k ∧ k < 8
      · have := hx k.toNat (by omega)
        unfold cnt sel at this
        rw [Int.toNat_of_nonneg hk.1] at this
        exact this
      · have : (tl.filter fun y => decide (y.1 = k) || decide (y.2 + 4 = k)) = [] := by
          rw [List.filter_eq_nil_iff]
          intro y hy h
          have sy := hs y hy
          unfold Small at sy
          simp only [Bool.or_eq_true, decide_eq_true_eq] at h
          omega
        rw [this]; exact Nat.zero_le _
    have hrest := cov_count K (tl.filter fun y => !(decide (y.1 = k) || decide (y.2 + 4 = k))) (fun y hy => hs y (List.mem_filter.mp hy).1) (fun j hj => by
      refine Nat.le_trans ?_ (hx j hj)
      unfold cnt
      exact (List.Sublist.filter _ List.filter_sublist).length_le) fun y hy => by
        obtain ⟨h1, h2⟩ := List.mem_filter.mp hy
        simp only [Bool.not_eq_true', Bool.or_eq_false_iff, decide_eq_false_iff_not] at h2
        rcases hc y h1 with h | h
        · rcases List.mem_cons.mp h with h | h
          · exact absurd h h2.1
          · exact .inl h
        · rcases List.mem_cons.mp h with h | h
          · exact absurd h h2.2
          · exact .inr h
    have hsum : ∀ (p : Int × Int → Bool) (l : List (Int × Int)), (l.filter p).length + (l.filter fun y => !p y).length = l.length := by
      intro p l
      induction l with
      | nil => rfl
      | cons a l ih =>
        rw [List.filter_cons, List.filter_cons]
        cases p a <;> simp <;> omega
    have := hsum (fun y => decide (y.1 = k) || decide (y.2 + 4 = k)) tl
    rw [List.length_cons, Nat.mul_succ]
    omega
/-- one tie more -/
theorem more_apart {tl tm : List (Int × Int)} (hs : ∀ x ∈ tl, Small x) (htm : tm = if (3, 3) ∈ tl then tl else tl ++ [(3, 3)]) : (apart tl).length ≤ (apart tm).length ∧ (apart tm).length ≤ (apart tl).length + 1 := by
  have hm : ∀ x ∈ tm, x ∈ tl ∨ x = (3, 3) := fun x hx => by
    rw [htm] at hx
    split at hx
    · exact .inl hx
    · rcases List.mem_append.mp hx with h | h
      · exact .inl h
      · exact .inr (by simpa using h)
  have hm' : ∀ x ∈ tl, x ∈ tm := fun x hx => by
    rw [htm]; split
    · exact hx
    · exact List.mem_append_left _ hx
  have hs' : ∀ x ∈ tm, Small x := fun x hx => by
    rcases hm x hx with h | rfl
    · exact hs x h
    · exact ⟨⟨by decide, by decide⟩, by decide, by decide⟩
  have G := koenig hs
  have G' := koenig hs'
  constructor
  · have c := kcov_cov hs' G'
    have := mt_le_cov hs G (K := kcov (meetLR tm (apart tm)).1 (meetLR tm (apart tm)).2) fun x hx => c x (hm' x hx)
    rw [kcov_length G'] at this
    exact this
  · have c := kcov_cov hs G
    have := mt_le_cov hs' G' (K := 3 :: kcov (meetLR tl (apart tl)).1 (meetLR tl (apart tl)).2) fun x hx => by
      rcases hm x hx with h | rfl
      · exact (c x h).imp (List.mem_cons_of_mem _) (List.mem_cons_of_mem _)
      · exact .inl (.head _)
    rw [List.length_cons, kcov_length G] at this
    exact this

/-- the whole law -/
theorem law_ok {B : Base} {f : Addr} (W : L1 B) (H : FnAt B "law" (D1 "law") ["script"] [] f) {ns : List Int} (hns : ns.length ≤ 63) : FC B 9 f [.lst (ns.map .int)] [] fun p _ => p = .bool true := by
  refine FnAt.call H W.lim (by decide +kernel) (by decide +kernel) (by decide +kernel) (by exact (by decide : 1 ≤ 1)) (by exact (by decide : 1 ≤ 1 + 0)) [some (.lst (ns.map .int)), none, none, none, none, none, none, none, none, none, none, none, none, none, none] (fun _ => rfl) fun name qual dV kV doc pm an cdv ct L => ?_
  refine law_A W hns _ _ _ _ _ _ _ _ _ _ fun tl J u v T => ?_
  have hs := T.small
  have hl : tl.length ≤ 8 := by have := T.len; rw [List.length_take] at this; omega
  have G := koenig hs
  refine law_B W T.up hl rfl (fun e he => G.edge e he) G.cols G.rows G.four rfl G.fourR G.cov (fun x hx => ?_) G.size rfl _ _ _ _ _ _ _ _ _ _ fun ps w1 w2 w3 h0 => ?_
  · have := (hs x hx).1
    simp only [C4, List.mem_cons, List.not_mem_nil, or_false]
    omega
  have hP : ((apart tl).map swp).length = (apart tl).length := by simp
  refine law_C W hl (by rw [hP]; exact G.four) (by rw [hP]; exact few_all hs G) h0 _ _ _ _ _ _ _ _ _ _ fun u w4 => ?_
  refine law_D W (plt_nodup T.up) hs hl h0 _ _ _ _ _ _ _ _ _ _ fun J w5 w6 w7 => ?_
  refine law_E W hs hl (by rw [hP]; exact G.four) (fun x hx => ?_) rfl (by rw [hP]; exact more_apart hs rfl) (by rw [List.getElem?_append_left (List.getElem?_eq_some_iff.mp h0).1]; exact h0) _ _ _ _ _ _ _ _ _ _ fun m ps => rfl
  rw [hP, ← kcov_length G]
  exact cov_count _ tl hs hx (kcov_cov hs G)

end Mine

open PySem PySem.W PyProof.Rows Mine
theorem Mine.post1 (args : List WData) : PySem.Challenge.rw_ia0003_01.row.claim.post args (.bool true) args = true := by
  refine postW_of (X := true) (by wrow_shape) ?_ rfl
  wtm_val
set_option maxRecDepth 100000 in
set_option maxHeartbeats 8000000 in
theorem PySem.Challenge.cw_ia0003_01_holds : PySem.Challenge.rw_ia0003_01.Holds := by
  w_on; o_law; k_head; (case hw => w_witness2); w_strict (
  k_fill
  intro w s₀ s₁ mg mb G Y fa o pm cd doc dV kV ho hd hcd hD hmg hg args vals as hpre hlay hrd hwl hlo
  have KX := kIn_of Y
  refine Ground.open G ?_
  intro T B D TE TW
  (try (refine guard_noD D (by decide +kernel) ?_; clear D))
  wrow_args hpre hlay hrd hwl hlo
  all_goals (
    first | refine callC_kw (enter_call ?_) | refine enter_call ?_ | refine callC_kw (enter_callW ?_) | refine enter_callW ?_ | w_how
    )
  rename_i ns _ _ _ _ _ _ _ la _ _ _ _ wl _ _ _ hlen _
  have TR := topRead_of T
  have W : L1 ⟨PySem.Challenge.rw_ia0003_01.row.prog, w, s₁.heap, s₁.os⟩ := {
    apa := ⟨_, fnAt_of KX TR.g (by k_is) (by k_is) (by k_is) rfl (fun s vs _ h1 _ h2 => by obtain ⟨a, rfl⟩ := len1 h1 h2; exact ⟨[], BindsTo.of_eq rfl, fun _ _ => VRs.nil⟩)⟩
    cnt := ⟨_, fnAt_of KX TR.g (by k_is) (by k_is) (by k_is) rfl (fun s vs _ h1 _ h2 => by obtain ⟨a, rfl⟩ := len1 h1 h2; exact ⟨[], BindsTo.of_eq rfl, fun _ _ => VRs.nil⟩)⟩
    mee := ⟨_, fnAt_of KX TR.g (by k_is) (by k_is) (by k_is) rfl (fun s vs _ h1 _ h2 => by obtain ⟨a, b, rfl⟩ := len2 h1 h2; exact ⟨[], BindsTo.of_eq rfl, fun _ _ => VRs.nil⟩)⟩
    add := ⟨_, fnAt_of KX TR.g (by k_is) (by k_is) (by k_is) rfl (fun s vs _ h1 _ h2 => by obtain ⟨a, b, rfl⟩ := len2 h1 h2; exact ⟨[], BindsTo.of_eq rfl, fun _ _ => VRs.nil⟩)⟩
    fre := ⟨_, fnAt_of KX TR.g (by k_is) (by k_is) (by k_is) rfl (fun s vs _ h1 _ h2 => by obtain ⟨a, b, c, d, rfl⟩ := len4 h1 h2; exact ⟨[], BindsTo.of_eq rfl, fun _ _ => VRs.nil⟩)⟩
    bis := ⟨_, fnAt_of KX TR.g (by k_is) (by k_is) (by k_is) rfl (fun s vs X _ h1 h2 => by
      have h2 : 2 ≤ vs.length := by have : 5 ≤ vs.length + 3 := h2; omega
      rcases len24 h1 h2 with ⟨a, b, rfl⟩ | ⟨a, b, c, rfl⟩ | ⟨a, b, c, d, rfl⟩
      · refine ⟨[.int 0 _, .none, .none], kp_binds X (fun S => rfl), fun _ _ => VRs.cons vr_int (VRs.cons vr_none (VRs.cons vr_none VRs.nil))⟩
      · refine ⟨[.none, .none], kp_binds X (fun S => rfl), fun _ _ => VRs.cons vr_none (VRs.cons vr_none VRs.nil)⟩
      · refine ⟨[.none], kp_binds X (fun S => rfl), fun _ _ => VRs.cons vr_none VRs.nil⟩)⟩
    ins := ⟨_, fnAt_of KX TR.g (by k_is) (by k_is) (by k_is) rfl (fun s vs X _ h1 h2 => by
      have h2 : 2 ≤ vs.length := by have : 5 ≤ vs.length + 3 := h2; omega
      rcases len24 h1 h2 with ⟨a, b, rfl⟩ | ⟨a, b, c, rfl⟩ | ⟨a, b, c, d, rfl⟩
      · refine ⟨[.int 0 _, .none, .none], kp_binds X (fun S => rfl), fun _ _ => VRs.cons vr_int (VRs.cons vr_none (VRs.cons vr_none VRs.nil))⟩
      · refine ⟨[.none, .none], kp_binds X (fun S => rfl), fun _ _ => VRs.cons vr_none (VRs.cons vr_none VRs.nil)⟩
      · refine ⟨[.none], kp_binds X (fun S => rfl), fun _ _ => VRs.cons vr_none VRs.nil⟩)⟩
    len := glook_builtin KX TR (by k_is) rfl (by decide)
    range := glook_builtin KX TR (by k_is) rfl (by decide)
    sum := glook_builtin KX TR (by k_is) rfl (by decide)
    max := glook_builtin KX TR (by k_is) rfl (by decide)
    sorted := glook_builtin KX TR (by k_is) rfl (by decide)
    dict := glook_builtin KX TR (by k_is) rfl (by decide)
    lim := T.nolimit }
  have F0 : FnAt ⟨PySem.Challenge.rw_ia0003_01.row.prog, w, s₁.heap, s₁.os⟩ "law" (D1 "law") ["script"] [] fa :=
    fnAt_at KX TR.g (by k_is) (by k_is) (by k_is) rfl (fun s vs _ h1 _ h2 => by obtain ⟨a, rfl⟩ := len1 h1 h2; exact ⟨[], BindsTo.of_eq rfl, fun _ _ => VRs.nil⟩) hmg rfl
  exact codeAny_mono (law_ok W F0 (by omega) callerA [] s₁ _ ⟨rfl, by decide, by decide⟩ ⟨fun b o e => e, fun a h => (by cases h), List.nodup_nil, rfl, fun k a po h => (by cases h), hg, rfl, (by simp), T.nolimit⟩ (VRs.cons (well_ints wl) VRs.nil))
    fun r s' ⟨v, e, φ', p, ps', hp, G', V', X'⟩ => by
      subst e hp
      rw [VR.bool_inv V']
      exact GoodW.toG ⟨.inl ⟨.bool true, .bool true, [], rfl, fun _ => rfl, .bool true, Mine.post1 _, fun _ => ⟨List.nodup_nil, fun a h => (by cases h)⟩⟩, G'.base, G'.os, G'.gens⟩)
