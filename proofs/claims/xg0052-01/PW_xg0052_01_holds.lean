import PyProof.Rows.All
import Wide.All
import OpenK.AllK
import Wide.FinOn
import PySem.Challenge.RW_xg0052_01
open PySem PySem.W PyProof.Rows
set_option Elab.async false
set_option maxRecDepth 100000
set_option linter.all false
namespace Mine
section
local macro_rules | `(tactic| o_head $_) => `(tactic| exact (by assumption : ∀ r : OpenRow, r.Holds) _)
theorem h0 (h : ∀ r : OpenRow, r.Holds) : OpenRow.Holds PySem.Challenge.rw_xg0052_01.row := by
  k_head
end
inductive SameK : (Params → Frag) → Prop
  | mk : SameK h0.heap_1
theorem gdK : Str.ofString "a" = (⟨#[97]⟩ : Str) := by decide +kernel
noncomputable def HK : Params → Frag := by
  refine (fun (K : Params → Frag) (_ : SameK K) (P : Params) => (fun (_ : Str.ofString "a" = (⟨#[97]⟩ : Str)) => K P) gdK) ?K ?h
  case h =>
    have e : SameK h0.heap_1 := .mk
    delta h0.heap_1 at e
    exact e
end Mine
section
open PySem.Calls
namespace Mine

inductive D where
  | none
  | bool (b : Bool)
  | int (i : Int)
  | str (x : Str)
  | flt (b : UInt64)
  | tup (ds : List D)
  | lst (ds : List D)
  | dct (kvs : List (Int × Int))
  | rng (a b : Int)
  | vals (kvs : List (Int × Int))
  | its (kvs : List (Int × Int))
  | ptr (v : Value)
  | fact (p : Prop)

noncomputable abbrev tupO (vs : List Value) (n : Nat) : Obj := { cls := .type "tuple", data := .seq vs.toArray n }
noncomputable abbrev lstO (vs : List Value) (n : Nat) : Obj := { cls := .type "list", data := .seq vs.toArray n }
noncomputable abbrev dctO (es : List DictEntry) (n : Nat) : Obj := { cls := .type "dict", data := .dict es.toArray n }

inductive Ents : List DictEntry → List (Int × Int) → Prop
  | nil : Ents [] []
  | cons {k v : Int} {t u : Tok} {es : List DictEntry} {kvs : List (Int × Int)} : Ents es kvs → Ents (⟨hashInt k, .int k t, .int v u⟩ :: es) ((k, v) :: kvs)

mutual
inductive Rep (F : List Addr) (h : Heap) : Value → D → Prop
  | none : Rep F h .none .none
  | bool (b : Bool) : Rep F h (.bool b) (.bool b)
  | int (i : Int) (t : Tok) : Rep F h (.int i t) (.int i)
  | str (x : Str) (t : Tok) : Rep F h (.str x t) (.str x)
  | flt (b : UInt64) (t : Tok) : Rep F h (.float b t) (.flt b)
  | tup {a : Addr} {vs : List Value} {n : Nat} {ds : List D} : a ∉ F → h.get? a = some (tupO vs n) → RepL F h vs ds → Rep F h (.ref a) (.tup ds)
  | lst {a : Addr} {vs : List Value} {n : Nat} {ds : List D} : a ∉ F → h.get? a = some (lstO vs n) → RepL F h vs ds → Rep F h (.ref a) (.lst ds)
  | dct {a : Addr} {es : List DictEntry} {n : Nat} {kvs : List (Int × Int)} : a ∉ F → (a == sysModules) = false → h.get? a = some (dctO es n) → Ents es kvs → (kvs.map (·.1)).Nodup → Rep F h (.ref a) (.dct kvs)
  | rng {r : Addr} {a b : Int} {t u v : Tok} : r ∉ F → IsRange h r a b 1 t u v → Rep F h (.ref r) (.rng a b)
  | vals {v a : Addr} {es : List DictEntry} {n : Nat} {kvs : List (Int × Int)} : v ∉ F → h.get? v = some { cls := .type "dict_values", data := .fields #[.ref a] } → a ∉ F → h.get? a = some (dctO es n) → Ents es kvs → (kvs.map (·.1)).Nodup → Rep F h (.ref v) (.vals kvs)
  | its {v a : Addr} {es : List DictEntry} {n : Nat} {kvs : List (Int × Int)} : v ∉ F → h.get? v = some { cls := .type "dict_items", data := .fields #[.ref a] } → a ∉ F → h.get? a = some (dctO es n) → Ents es kvs → (kvs.map (·.1)).Nodup → Rep F h (.ref v) (.its kvs)
  | ptr (v : Value) : Rep F h v (.ptr v)
  | fact {v : Value} {p : Prop} : p → Rep F h v (.fact p)
inductive RepL (F : List Addr) (h : Heap) : List Value → List D → Prop
  | nil : RepL F h [] []
  | cons {v : Value} {d : D} {vs : List Value} {ds : List D} : Rep F h v d → RepL F h vs ds → RepL F h (v :: vs) (d :: ds)
end

/-- all that stands at h off X stands at h' -/
noncomputable def Le (X : List Addr) (h h' : Heap) : Prop := ∀ b o, b ∉ X → h.get? b = some o → h'.get? b = some o
theorem Le.refl (X : List Addr) (h : Heap) : Le X h h := fun _ _ _ e => e
theorem Le.trans {X : List Addr} {h₁ h₂ h₃ : Heap} (x : Le X h₁ h₂) (y : Le X h₂ h₃) : Le X h₁ h₃ := fun b o hb e => y b o hb (x b o hb e)
theorem Le.wide {X Y : List Addr} {h h' : Heap} (x : Le X h h') (hs : ∀ a ∈ X, a ∈ Y) : Le Y h h' := fun b o hb e => x b o (fun m => hb (hs b m)) e
theorem Le.of_all {X : List Addr} {h h' : Heap} (x : ∀ b o, h.get? b = some o → h'.get? b = some o) : Le X h h' := fun b o _ e => x b o e

/-- a heap that keeps what F does not hold, and a set to stay off that holds none of the old objects but those of F -/
theorem Rep.move {F F' : List Addr} {h h' : Heap} (hl : Le F h h') (hF : ∀ a o, h.get? a = some o → a ∈ F' → a ∈ F) {v : Value} {d : D} (r : Rep F h v d) : Rep F' h' v d :=
  @Rep.rec F h (fun v d _ => Rep F' h' v d) (fun vs ds _ => RepL F' h' vs ds) (.none) (fun b => .bool b) (fun i t => .int i t) (fun x t => .str x t) (fun b t => .flt b t)
    (fun ha ho _ ih => .tup (fun m => ha (hF _ _ ho m)) (hl _ _ ha ho) ih) (fun ha ho _ ih => .lst (fun m => ha (hF _ _ ho m)) (hl _ _ ha ho) ih)
    (fun ha hm ho e n => .dct (fun m => ha (hF _ _ ho m)) hm (hl _ _ ha ho) e n) (fun ha ho => .rng (fun m => ha (hF _ _ ho m)) (hl _ _ ha ho))
    (fun hv ho ha ho2 e n => .vals (fun m => hv (hF _ _ ho m)) (hl _ _ hv ho) (fun m => ha (hF _ _ ho2 m)) (hl _ _ ha ho2) e n)
    (fun hv ho ha ho2 e n => .its (fun m => hv (hF _ _ ho m)) (hl _ _ hv ho) (fun m => ha (hF _ _ ho2 m)) (hl _ _ ha ho2) e n)
    (fun v => .ptr v) (fun p => .fact p) .nil (fun _ _ r q => .cons r q) v d r
theorem RepL.move {F F' : List Addr} {h h' : Heap} (hl : Le F h h') (hF : ∀ a o, h.get? a = some o → a ∈ F' → a ∈ F) {vs : List Value} {ds : List D} (r : RepL F h vs ds) : RepL F' h' vs ds :=
  @RepL.rec F h (fun v d _ => Rep F' h' v d) (fun vs ds _ => RepL F' h' vs ds) (.none) (fun b => .bool b) (fun i t => .int i t) (fun x t => .str x t) (fun b t => .flt b t)
    (fun ha ho _ ih => .tup (fun m => ha (hF _ _ ho m)) (hl _ _ ha ho) ih) (fun ha ho _ ih => .lst (fun m => ha (hF _ _ ho m)) (hl _ _ ha ho) ih)
    (fun ha hm ho e n => .dct (fun m => ha (hF _ _ ho m)) hm (hl _ _ ha ho) e n) (fun ha ho => .rng (fun m => ha (hF _ _ ho m)) (hl _ _ ha ho))
    (fun hv ho ha ho2 e n => .vals (fun m => hv (hF _ _ ho m)) (hl _ _ hv ho) (fun m => ha (hF _ _ ho2 m)) (hl _ _ ha ho2) e n)
    (fun hv ho ha ho2 e n => .its (fun m => hv (hF _ _ ho m)) (hl _ _ hv ho) (fun m => ha (hF _ _ ho2 m)) (hl _ _ ha ho2) e n)
    (fun v => .ptr v) (fun p => .fact p) .nil (fun _ _ r q => .cons r q) vs ds r
theorem Rep.keeps {F : List Addr} {h h' : Heap} (hl : ∀ b o, h.get? b = some o → h'.get? b = some o) {v : Value} {d : D} (r : Rep F h v d) : Rep F h' v d := r.move (Le.of_all hl) fun _ _ _ m => m
theorem RepL.keeps {F : List Addr} {h h' : Heap} (hl : ∀ b o, h.get? b = some o → h'.get? b = some o) {vs : List Value} {ds : List D} (r : RepL F h vs ds) : RepL F h' vs ds := r.move (Le.of_all hl) fun _ _ _ m => m
theorem Rep.le {F : List Addr} {h h' : Heap} (hl : Le F h h') {v : Value} {d : D} (r : Rep F h v d) : Rep F h' v d := r.move hl fun _ _ _ m => m
theorem RepL.le {F : List Addr} {h h' : Heap} (hl : Le F h h') {vs : List Value} {ds : List D} (r : RepL F h vs ds) : RepL F h' vs ds := r.move hl fun _ _ _ m => m
theorem Rep.less {F F' : List Addr} {h : Heap} (hs : ∀ a ∈ F', a ∈ F) {v : Value} {d : D} (r : Rep F h v d) : Rep F' h v d := r.move (Le.refl _ _) fun a _ _ m => hs a m
theorem RepL.less {F F' : List Addr} {h : Heap} (hs : ∀ a ∈ F', a ∈ F) {vs : List Value} {ds : List D} (r : RepL F h vs ds) : RepL F' h vs ds := r.move (Le.refl _ _) fun a _ _ m => hs a m

section
variable {F : List Addr} {h : Heap} {v : Value} {d : D} {vs us : List Value} {ds es : List D}
theorem RepL.length (r : RepL F h vs ds) : vs.length = ds.length := by
  induction vs generalizing ds with
  | nil => cases r; rfl
  | cons v vs ih => cases r with | cons _ q => simp [ih q]
theorem RepL.append (r : RepL F h vs ds) (q : RepL F h us es) : RepL F h (vs ++ us) (ds ++ es) := by
  induction vs generalizing ds with
  | nil => cases r; exact q
  | cons v vs ih => cases r with | cons a b => exact .cons a (ih b)
theorem RepL.get (r : RepL F h vs ds) {i : Nat} {d : D} (e : ds[i]? = some d) : ∃ v, vs[i]? = some v ∧ Rep F h v d := by
  induction vs generalizing ds i with
  | nil => cases r; simp at e
  | cons v vs ih =>
    cases r with
    | cons a b =>
      cases i with
      | zero => simp only [List.getElem?_cons_zero, Option.some.injEq] at e; subst e; exact ⟨v, rfl, a⟩
      | succ i => simp only [List.getElem?_cons_succ] at e ⊢; exact ih b e
theorem RepL.gets (r : RepL F h vs ds) {i : Nat} {v : Value} (e : vs[i]? = some v) : ∃ d, ds[i]? = some d ∧ Rep F h v d := by
  induction vs generalizing ds i with
  | nil => simp at e
  | cons u vs ih =>
    cases r with
    | cons a b =>
      cases i with
      | zero => simp only [List.getElem?_cons_zero, Option.some.injEq] at e; subst e; exact ⟨_, rfl, a⟩
      | succ i => simp only [List.getElem?_cons_succ] at e ⊢; exact ih b e
theorem RepL.take (r : RepL F h vs ds) (i : Nat) : RepL F h (vs.take i) (ds.take i) := by
  induction vs generalizing ds i with
  | nil => cases r; simp; exact .nil
  | cons v vs ih =>
    cases r with
    | cons a b =>
      cases i with
      | zero => exact .nil
      | succ i => exact .cons a (ih b i)
theorem RepL.drop (r : RepL F h vs ds) (i : Nat) : RepL F h (vs.drop i) (ds.drop i) := by
  induction vs generalizing ds i with
  | nil => cases r; simp; exact .nil
  | cons v vs ih =>
    cases r with
    | cons a b =>
      cases i with
      | zero => exact .cons a b
      | succ i => exact ih b i
theorem RepL.set (r : RepL F h vs ds) {i : Nat} (q : Rep F h v d) : RepL F h (vs.set i v) (ds.set i d) := by
  induction vs generalizing ds i with
  | nil => cases r; exact .nil
  | cons v vs ih =>
    cases r with
    | cons a b =>
      cases i with
      | zero => exact .cons q b
      | succ i => exact .cons a (ih b)
theorem RepL.ints {ns : List Int} (r : IntsAre vs ns) : RepL F h vs (ns.map D.int) := by
  induction vs generalizing ns with
  | nil => cases r; exact .nil
  | cons v vs ih => cases r with | cons _ _ q => exact .cons (.int _ _) (ih q)
end

/-- what stands behind a datum -/
noncomputable def Inv (F : List Addr) (h : Heap) (v : Value) : D → Prop
  | .none => v = .none
  | .bool b => v = .bool b
  | .int i => ∃ t, v = .int i t
  | .str x => ∃ t, v = .str x t
  | .flt b => ∃ t, v = .float b t
  | .tup ds => ∃ a vs n, v = .ref a ∧ a ∉ F ∧ h.get? a = some (tupO vs n) ∧ RepL F h vs ds
  | .lst ds => ∃ a vs n, v = .ref a ∧ a ∉ F ∧ h.get? a = some (lstO vs n) ∧ RepL F h vs ds
  | .dct kvs => ∃ a es n, v = .ref a ∧ a ∉ F ∧ (a == sysModules) = false ∧ h.get? a = some (dctO es n) ∧ Ents es kvs ∧ (kvs.map (·.1)).Nodup
  | .rng a b => ∃ p t u w, v = .ref p ∧ p ∉ F ∧ IsRange h p a b 1 t u w
  | .vals kvs => ∃ p a es n, v = .ref p ∧ p ∉ F ∧ h.get? p = some { cls := .type "dict_values", data := .fields #[.ref a] } ∧ a ∉ F ∧ h.get? a = some (dctO es n) ∧ Ents es kvs ∧ (kvs.map (·.1)).Nodup
  | .its kvs => ∃ p a es n, v = .ref p ∧ p ∉ F ∧ h.get? p = some { cls := .type "dict_items", data := .fields #[.ref a] } ∧ a ∉ F ∧ h.get? a = some (dctO es n) ∧ Ents es kvs ∧ (kvs.map (·.1)).Nodup
  | .ptr u => v = u
  | .fact p => p
noncomputable def InvL (F : List Addr) (h : Heap) (vs : List Value) : List D → Prop
  | [] => vs = []
  | d :: ds => ∃ v us, vs = v :: us ∧ Rep F h v d ∧ RepL F h us ds
section
variable {F : List Addr} {h : Heap}
theorem Rep.inv {v : Value} {d : D} (r : Rep F h v d) : Inv F h v d :=
  @Rep.casesOn F h (fun v d _ => Inv F h v d) v d r rfl (fun _ => rfl) (fun _ t => ⟨t, rfl⟩) (fun _ t => ⟨t, rfl⟩) (fun _ t => ⟨t, rfl⟩)
    (fun x y z => ⟨_, _, _, rfl, x, y, z⟩) (fun x y z => ⟨_, _, _, rfl, x, y, z⟩) (fun a b c d e => ⟨_, _, _, rfl, a, b, c, d, e⟩) (fun x y => ⟨_, _, _, _, rfl, x, y⟩)
    (fun a b c d e f => ⟨_, _, _, _, rfl, a, b, c, d, e, f⟩) (fun a b c d e f => ⟨_, _, _, _, rfl, a, b, c, d, e, f⟩) (fun _ => rfl) (fun x => x)
theorem RepL.inv {vs : List Value} {ds : List D} (r : RepL F h vs ds) : InvL F h vs ds :=
  @RepL.casesOn F h (fun vs ds _ => InvL F h vs ds) vs ds r rfl (fun a b => ⟨_, _, rfl, a, b⟩)
@[elab_as_elim] theorem Rep.enone {P : Value → Prop} {v : Value} (r : Rep F h v .none) (k : P .none) : P v := @Eq.substr _ P _ _ r.inv k
@[elab_as_elim] theorem Rep.ebool {b : Bool} {P : Value → Prop} {v : Value} (r : Rep F h v (.bool b)) (k : P (.bool b)) : P v := @Eq.substr _ P _ _ r.inv k
@[elab_as_elim] theorem Rep.eint {i : Int} {P : Value → Prop} {v : Value} (r : Rep F h v (.int i)) (k : ∀ t, P (.int i t)) : P v := match r.inv with | ⟨t, e⟩ => @Eq.substr _ P _ _ e (k t)
@[elab_as_elim] theorem Rep.estr {x : Str} {P : Value → Prop} {v : Value} (r : Rep F h v (.str x)) (k : ∀ t, P (.str x t)) : P v := match r.inv with | ⟨t, e⟩ => @Eq.substr _ P _ _ e (k t)
@[elab_as_elim] theorem Rep.eflt {b : UInt64} {P : Value → Prop} {v : Value} (r : Rep F h v (.flt b)) (k : ∀ t, P (.float b t)) : P v := match r.inv with | ⟨t, e⟩ => @Eq.substr _ P _ _ e (k t)
@[elab_as_elim] theorem Rep.eptr {u : Value} {P : Value → Prop} {v : Value} (r : Rep F h v (.ptr u)) (k : P u) : P v := @Eq.substr _ P _ _ r.inv k
@[elab_as_elim] theorem Rep.etup {ds : List D} {P : Value → Prop} {v : Value} (r : Rep F h v (.tup ds)) (k : ∀ a vs n, a ∉ F → h.get? a = some (tupO vs n) → RepL F h vs ds → P (.ref a)) : P v := match r.inv with | ⟨a, vs, n, e, x, y, z⟩ => @Eq.substr _ P _ _ e (k a vs n x y z)
@[elab_as_elim] theorem Rep.elst {ds : List D} {P : Value → Prop} {v : Value} (r : Rep F h v (.lst ds)) (k : ∀ a vs n, a ∉ F → h.get? a = some (lstO vs n) → RepL F h vs ds → P (.ref a)) : P v := match r.inv with | ⟨a, vs, n, e, x, y, z⟩ => @Eq.substr _ P _ _ e (k a vs n x y z)
@[elab_as_elim] theorem Rep.edct {kvs : List (Int × Int)} {P : Value → Prop} {v : Value} (r : Rep F h v (.dct kvs)) (k : ∀ a es n, a ∉ F → (a == sysModules) = false → h.get? a = some (dctO es n) → Ents es kvs → (kvs.map (·.1)).Nodup → P (.ref a)) : P v := match r.inv with | ⟨a, es, n, e, x, y, z, u, w⟩ => @Eq.substr _ P _ _ e (k a es n x y z u w)
@[elab_as_elim] theorem Rep.erng {a b : Int} {P : Value → Prop} {v : Value} (r : Rep F h v (.rng a b)) (k : ∀ p t u w, p ∉ F → IsRange h p a b 1 t u w → P (.ref p)) : P v := match r.inv with | ⟨p, t, u, w, e, x, y⟩ => @Eq.substr _ P _ _ e (k p t u w x y)
@[elab_as_elim] theorem Rep.evals {kvs : List (Int × Int)} {P : Value → Prop} {v : Value} (r : Rep F h v (.vals kvs)) (k : ∀ p a es n, p ∉ F → h.get? p = some { cls := .type "dict_values", data := .fields #[.ref a] } → a ∉ F → h.get? a = some (dctO es n) → Ents es kvs → (kvs.map (·.1)).Nodup → P (.ref p)) : P v := match r.inv with | ⟨p, a, es, n, e, x, y, z, u, w, q⟩ => @Eq.substr _ P _ _ e (k p a es n x y z u w q)
@[elab_as_elim] theorem Rep.eits {kvs : List (Int × Int)} {P : Value → Prop} {v : Value} (r : Rep F h v (.its kvs)) (k : ∀ p a es n, p ∉ F → h.get? p = some { cls := .type "dict_items", data := .fields #[.ref a] } → a ∉ F → h.get? a = some (dctO es n) → Ents es kvs → (kvs.map (·.1)).Nodup → P (.ref p)) : P v := match r.inv with | ⟨p, a, es, n, e, x, y, z, u, w, q⟩ => @Eq.substr _ P _ _ e (k p a es n x y z u w q)
theorem Rep.ofFact {v : Value} {p : Prop} (r : Rep F h v (.fact p)) : p := r.inv
@[elab_as_elim] theorem RepL.e0 {P : List Value → Prop} {vs : List Value} (r : RepL F h vs []) (k : P []) : P vs := @Eq.substr _ P _ _ r.inv k
@[elab_as_elim] theorem RepL.ec {d : D} {ds : List D} {P : List Value → Prop} {vs : List Value} (r : RepL F h vs (d :: ds)) (k : ∀ v us, Rep F h v d → RepL F h us ds → P (v :: us)) : P vs := match r.inv with | ⟨v, us, e, x, y⟩ => @Eq.substr _ P _ _ e (k v us x y)
@[elab_as_elim] theorem RepL.e1 {d : D} {P : List Value → Prop} {vs : List Value} (r : RepL F h vs [d]) (k : ∀ v, Rep F h v d → P [v]) : P vs := @RepL.ec F h _ _ P _ r fun v us x y => @RepL.e0 F h (fun us => P (v :: us)) us y (k v x)
@[elab_as_elim] theorem RepL.e2 {d e : D} {P : List Value → Prop} {vs : List Value} (r : RepL F h vs [d, e]) (k : ∀ v, Rep F h v d → ∀ u, Rep F h u e → P [v, u]) : P vs := @RepL.ec F h _ _ P _ r fun v us x y => @RepL.e1 F h _ (fun us => P (v :: us)) us y (k v x)
@[elab_as_elim] theorem RepL.e3 {d e f : D} {P : List Value → Prop} {vs : List Value} (r : RepL F h vs [d, e, f]) (k : ∀ v, Rep F h v d → ∀ u, Rep F h u e → ∀ w, Rep F h w f → P [v, u, w]) : P vs := @RepL.ec F h _ _ P _ r fun v us x y => @RepL.e2 F h _ _ (fun us => P (v :: us)) us y (k v x)
end

/-- nothing but the heap and the tokens has turned -/
noncomputable def Same (s₀ s : Shared) : Prop := ∃ h tk, s = { s₀ with heap := h, toks := tk }
theorem Same.refl (s : Shared) : Same s s := ⟨s.heap, s.toks, rfl⟩
theorem Same.trans {a b c : Shared} (x : Same a b) (y : Same b c) : Same a c := by
  obtain ⟨h, t, rfl⟩ := x; obtain ⟨h', t', rfl⟩ := y; exact ⟨h', t', rfl⟩
theorem kpSame {s s' : Shared} (k : Keeps s s') : Same s s' := let ⟨h, t, e, _⟩ := k; ⟨h, t, e⟩
theorem kpLe {s s' : Shared} (k : Keeps s s') : ∀ b o, s.heap.get? b = some o → s'.heap.get? b = some o := by
  obtain ⟨h, t, rfl, hk⟩ := k; exact hk
theorem kpOf {s s' : Shared} (x : Same s s') (hk : ∀ b o, s.heap.get? b = some o → s'.heap.get? b = some o) : Keeps s s' := by
  obtain ⟨h, t, rfl⟩ := x; exact ⟨h, t, rfl, hk⟩
theorem kpRefl (s : Shared) : Keeps s s := ⟨s.heap, s.toks, rfl, fun _ _ e => e⟩
theorem kpTrans {a b c : Shared} (x : Keeps a b) (y : Keeps b c) : Keeps a c := kpOf ((kpSame x).trans (kpSame y)) fun p o e => kpLe y p o (kpLe x p o e)
theorem kpTok (s : Shared) (n : Nat) : Keeps s { s with toks := n } := ⟨s.heap, n, rfl, fun _ _ e => e⟩
theorem kpPush (s : Shared) (o : Obj) : Keeps s { s with heap := s.heap.push o } := ⟨_, s.toks, rfl, fun _ _ e => Heap.get?_push_of_some _ e⟩

/-- what is known of the world once for all -/
structure Cx where
  prog : Program
  w : World
  K : Frag
  p : Program
  loose : List Str
  mg : Str → Option Value
  mb : Str → Option Value
  b0 : Heap

structure Cx.Ok (c : Cx) : Prop where
  X : c.K.In c.b0
  T : TopRead c.p c.loose c.mg c.mb c.b0

structure Room (A : Around) (n : Nat) : Prop where
  handled : A.handled = none
  depth : A.depth + n ≤ 900
  units : A.units + 3 * n ≤ 9000

theorem Room.less {A : Around} {n m : Nat} (r : Room A n) (h : m ≤ n) : Room A m := ⟨r.handled, by have := r.depth; omega, by have := r.units; omega⟩
theorem Room.deeper {A : Around} {n : Nat} (r : Room A (n + 1)) (env : Env) : Room (A.deeper env) n :=
  ⟨r.handled, by have := r.depth; show A.depth + 1 + n ≤ 900; omega, by have := r.units; show A.units + 3 + 3 * n ≤ 9000; omega⟩
theorem Room.cl {A : Around} {n : Nat} (r : Room A n) : A.units < cLine := by have := r.units; show A.units < 9900; omega
theorem Room.cl64 {A : Around} {n : Nat} (r : Room A n) : A.units + 64 < cLine := by have := r.units; show A.units + 64 < 9900; omega
theorem Room.dl {A : Around} {n : Nat} (r : Room A n) : A.depth < recursionLimit := by have := r.depth; show A.depth < 1000; omega

noncomputable abbrev Vars := List (Str × D)

/-- what a thing in turn is just now: a list, a dict of ints -/
inductive M where
  | lst (ds : List D)
  | dct (kvs : List (Int × Int))

noncomputable def MAt (F : List Addr) (h : Heap) (a : Addr) : M → Prop
  | .lst ds => ∃ vs n, h.get? a = some (lstO vs n) ∧ RepL F h vs ds
  | .dct kvs => (a == sysModules) = false ∧ ∃ es n, h.get? a = some (dctO es n) ∧ Ents es kvs ∧ (kvs.map (·.1)).Nodup

noncomputable def VarAt (h : Heap) (env : Env) (m : Str → Option Value) (F : List Addr) (x : Str) (d : D) : Prop :=
  ∃ v, Rep F h v d ∧ ((env.kindOf x = some .local ∧ m x = some v) ∨ (env.kindOf x = some .cell ∧ ∃ c, env.cells.lookup x = some c ∧ c ∈ F ∧ h.IsCell c (some v)))

structure EnvOk (env : Env) : Prop where
  kind : env.scope.kind = .function
  globals : env.globals = mainGlobals
  builtins : env.builtins = builtinsNs
  has : ∀ x, env.kindOf x = some .cell → ∃ k, env.cells.lookup x = some k

/-- a frame's state: s₀ what it began with, g what is kept, own the frame's own addresses, F₀ the addresses of the frames around -/
structure St (c : Cx) (s₀ : Shared) (g : Addr → Option Obj) (own F₀ : List Addr) (env : Env) (ρ : Vars) (mu : Option (Addr × M)) (s : Shared) : Prop where
  same : Same s₀ s
  base : ∀ b o, c.b0.get? b = some o → g b = some o
  keep : ∀ b o, g b = some o → s.heap.get? b = some o
  fresh : ∀ a ∈ own, g a = none
  live : ∀ a ∈ F₀, a ∉ own ∧ ∃ o, s.heap.get? a = some o
  loc : env.locals ∈ own
  alive : ∀ a ∈ own, ∃ o, s.heap.get? a = some o
  vars : ∃ m, s.heap.Ns env.locals m ∧ ∀ x d, (x, d) ∈ ρ → VarAt s.heap env m (own ++ F₀) x d
  cells : ∀ x k, env.kindOf x = some .cell → env.cells.lookup x = some k → ∃ v, s.heap.IsCell k v
  mtd : ∀ a md, mu = some (a, md) → a ∈ own ∧ a ≠ env.locals ∧ MAt (own ++ F₀) s.heap a md

section
variable {c : Cx} {g g' : Addr → Option Obj} {own F₀ : List Addr} {env : Env} {ρ ρ' : Vars} {mu : Option (Addr × M)} {s₀ s s' : Shared}

theorem MAt.keeps {F : List Addr} {h h' : Heap} {a : Addr} {md : M} (x : MAt F h a md) (hl : ∀ b o, h.get? b = some o → h'.get? b = some o) : MAt F h' a md := by
  cases md with
  | lst ds => obtain ⟨vs, n, e, r⟩ := x; exact ⟨vs, n, hl _ _ e, r.keeps hl⟩
  | dct kvs => obtain ⟨hm, es, n, e, r⟩ := x; exact ⟨hm, es, n, hl _ _ e, r⟩
theorem VarAt.keeps {h h' : Heap} {m : Str → Option Value} {F : List Addr} {x : Str} {d : D} (v : VarAt h env m F x d) (hl : ∀ b o, h.get? b = some o → h'.get? b = some o) : VarAt h' env m F x d := by
  obtain ⟨v, r, q⟩ := v
  exact ⟨v, r.keeps hl, q.imp id fun ⟨k, c, e, hc, i⟩ => ⟨k, c, e, hc, i.keeps hl⟩⟩

theorem St.more (S : St c s₀ g own F₀ env ρ mu s) (k : Keeps s s') : St c s₀ g own F₀ env ρ mu s' :=
  have hl := kpLe k
  { same := S.same.trans (kpSame k)
    base := S.base
    keep := fun b o e => hl b o (S.keep b o e)
    fresh := S.fresh
    live := fun a m => let ⟨x, o, e⟩ := S.live a m; ⟨x, o, hl _ _ e⟩
    loc := S.loc
    alive := fun a m => let ⟨o, e⟩ := S.alive a m; ⟨o, hl _ _ e⟩
    vars := let ⟨m, n, v⟩ := S.vars; ⟨m, n.keeps hl, fun x d q => (v x d q).keeps hl⟩
    cells := fun x k hk e => let ⟨v, q⟩ := S.cells x k hk e; ⟨v, q.keeps hl⟩
    mtd := fun a md q => let ⟨x, z, y⟩ := S.mtd a md q; ⟨x, z, y.keeps hl⟩ }
theorem St.fewer (S : St c s₀ g own F₀ env ρ mu s) (h : ∀ p ∈ ρ', p ∈ ρ) : St c s₀ g own F₀ env ρ' mu s :=
  { S with vars := let ⟨m, n, v⟩ := S.vars; ⟨m, n, fun x d q => v x d (h _ q)⟩ }
theorem St.nomut (S : St c s₀ g own F₀ env ρ mu s) : St c s₀ g own F₀ env ρ none s := { S with mtd := fun _ _ e => nomatch e }
theorem St.b0 (S : St c s₀ g own F₀ env ρ mu s) : ∀ b o, c.b0.get? b = some o → s.heap.get? b = some o := fun b o e => S.keep b o (S.base b o e)
theorem St.nolimit (ok : c.Ok) (S : St c s₀ g own F₀ env ρ mu s) : s.heap.NoLimit := ok.T.nolimit.keeps S.b0
/-- another thing kept: all that stands off own -/
theorem St.to (S : St c s₀ g own F₀ env ρ mu s) (g' : Addr → Option Obj) (hb : ∀ b o, g b = some o → g' b = some o) (hk : ∀ b o, g' b = some o → s.heap.get? b = some o) (hf : ∀ a ∈ own, g' a = none) : St c s₀ g' own F₀ env ρ mu s :=
  { S with base := fun b o e => hb b o (S.base b o e), keep := hk, fresh := hf }
theorem St.back (S : St c s₀ g' own F₀ env ρ mu s) (hb : ∀ b o, g b = some o → g' b = some o) (h0 : ∀ b o, c.b0.get? b = some o → g b = some o) (hf : ∀ a ∈ own, g a = none) : St c s₀ g own F₀ env ρ mu s :=
  { S with base := h0, keep := fun b o e => S.keep b o (hb b o e), fresh := hf }
end

end Mine

namespace Mine

structure Ev (c : Cx) (n : Nat) (sc : Scope) (ρ : Vars) (mu : Option (Addr × M)) (e : Expr) (d : D) : Prop where
  mk ::
  run : 
  c.Ok → ∀ (A : Around) (E : Value → Shared → Prop) (env : Env) (s₀ : Shared) (g : Addr → Option Obj) (own F₀ : List Addr) (s : Shared), env.scope = sc → EnvOk env → Room A n → St c s₀ g own F₀ env ρ mu s →
    wpAny (model c.prog c.w) A (eval e env) (fun v s' => Keeps s s' ∧ Rep (own ++ F₀) s'.heap v d) E s
structure Tr (c : Cx) (n : Nat) (sc : Scope) (ρ : Vars) (mu : Option (Addr × M)) (e : Expr) (b : Bool) : Prop where
  mk ::
  run : 
  c.Ok → ∀ (A : Around) (E : Value → Shared → Prop) (env : Env) (s₀ : Shared) (g : Addr → Option Obj) (own F₀ : List Addr) (s : Shared), env.scope = sc → EnvOk env → Room A n → St c s₀ g own F₀ env ρ mu s →
    wpAny (model c.prog c.w) A (isTrue e env (eval e env)) (fun r s' => Keeps s s' ∧ r = b) E s
structure EvL (c : Cx) (n : Nat) (sc : Scope) (ρ : Vars) (mu : Option (Addr × M)) (es : List Expr) (ds : List D) : Prop where
  mk ::
  run : 
  c.Ok → ∀ (A : Around) (E : Value → Shared → Prop) (env : Env) (s₀ : Shared) (g : Addr → Option Obj) (own F₀ : List Addr) (s : Shared) (pos : Pos), env.scope = sc → EnvOk env → Room A n → St c s₀ g own F₀ env ρ mu s →
    wpAny (model c.prog c.w) A (spliced (backTo pos (starEach es env))) (fun vs s' => Keeps s s' ∧ RepL (own ++ F₀) s'.heap vs ds) E s

/-- statements, run to their end -/
structure Ex (c : Cx) (A : Around) (env : Env) (stmts : List Stmt) (Q : Flow → Shared → Prop) (E : Value → Shared → Prop) (s : Shared) : Prop where
  mk ::
  go : wpAny (model c.prog c.w) A (execs stmts env) Q E s
theorem Ex.mono {c : Cx} {A : Around} {env : Env} {stmts : List Stmt} {Q Q' : Flow → Shared → Prop} {E : Value → Shared → Prop} {s : Shared} (h : Ex c A env stmts Q E s) (k : ∀ f s', Q f s' → Q' f s') : Ex c A env stmts Q' E s := ⟨wpAny_mono h.go k fun _ _ e => e⟩

/-- all of F stands -/
noncomputable def Live (F : List Addr) (h : Heap) : Prop := ∀ a ∈ F, ∃ o, h.get? a = some o
theorem Live.keeps {F : List Addr} {h h' : Heap} (x : Live F h) (hl : ∀ b o, h.get? b = some o → h'.get? b = some o) : Live F h' := fun a m => let ⟨o, e⟩ := x a m; ⟨o, hl _ _ e⟩
theorem Live.off {F : List Addr} {h : Heap} (x : Live F h) : h.objs.size ∉ F := fun m => let ⟨_, e⟩ := x _ m; absurd (Heap.lt_size e) (Nat.lt_irrefl _)

theorem St.lives {c : Cx} {g : Addr → Option Obj} {own F₀ : List Addr} {env : Env} {ρ : Vars} {mu : Option (Addr × M)} {s₀ s : Shared} (S : St c s₀ g own F₀ env ρ mu s) : Live (own ++ F₀) s.heap := fun a m => by
  rcases List.mem_append.mp m with m | m
  · exact S.alive a m
  · exact (S.live a m).2

structure BinV (op : Operator) (d1 d2 d : D) : Prop where
  mk ::
  run : ∀ (prog : Program) (w : World) (A : Around) (E : Value → Shared → Prop) (F : List Addr) (s : Shared) (v1 v2 : Value), A.handled = none → s.heap.NoLimit → Live F s.heap →
  Rep F s.heap v1 d1 → Rep F s.heap v2 d2 → wpAny (model prog w) A (binaryOp op v1 v2) (fun v s' => Keeps s s' ∧ Rep F s'.heap v d) E s
structure InpV (op : Operator) (d1 d2 d : D) : Prop where
  mk ::
  run : ∀ (prog : Program) (w : World) (A : Around) (E : Value → Shared → Prop) (F : List Addr) (s : Shared) (v1 v2 : Value), A.handled = none → s.heap.NoLimit → Live F s.heap →
  Rep F s.heap v1 d1 → Rep F s.heap v2 d2 → wpAny (model prog w) A (inplaceOp op v1 v2) (fun v s' => Keeps s s' ∧ Rep F s'.heap v d) E s
structure CmpV (op : CmpOp) (d1 d2 : D) (b : Bool) : Prop where
  mk ::
  run : ∀ (prog : Program) (w : World) (A : Around) (E : Value → Shared → Prop) (F : List Addr) (s : Shared) (v1 v2 : Value), A.handled = none → A.units + 64 < cLine → s.heap.NoLimit → Live F s.heap →
  Rep F s.heap v1 d1 → Rep F s.heap v2 d2 → wpAny (model prog w) A (compareOp op v1 v2) (fun v s' => Keeps s s' ∧ v = .bool b) E s
structure TruV (d : D) (b : Bool) : Prop where
  mk ::
  run : ∀ (prog : Program) (w : World) (A : Around) (E : Value → Shared → Prop) (F : List Addr) (s : Shared) (v : Value), Rep F s.heap v d → wpAny (model prog w) A (truthy v) (fun r s' => Keeps s s' ∧ r = b) E s

section
variable {c : Cx} {n : Nat} {sc : Scope} {ρ : Vars} {mu : Option (Addr × M)}

-- constants and names
theorem Ev.cint {i : Int} {k : Nat} {pos : Pos} : Ev c n sc ρ mu (.Constant (.int i) k pos) (.int i) := .mk fun _ _ _ _ _ _ _ _ s _ _ _ _ => wpAny_Constant_int ⟨kpTok s _, .int _ _⟩
theorem Ev.cstr {x : Str} {k : Nat} {pos : Pos} : Ev c n sc ρ mu (.Constant (.str x) k pos) (.str x) := .mk fun _ _ _ _ _ _ _ _ s _ _ _ _ => wpAny_Constant_str ⟨kpTok s _, .str _ _⟩
theorem Ev.cflt {x : UInt64} {k : Nat} {pos : Pos} : Ev c n sc ρ mu (.Constant (.float x) k pos) (.flt x) := .mk fun _ _ _ _ _ _ _ _ s _ _ _ _ => AutoFloatOps.wpAny_Constant_float ⟨kpTok s _, .flt _ _⟩
theorem Ev.cbool {b : Bool} {k : Nat} {pos : Pos} : Ev c n sc ρ mu (.Constant (.bool b) k pos) (.bool b) := .mk fun _ _ _ _ _ _ _ _ s _ _ _ _ => wpAny_Constant_bool ⟨kpRefl s, .bool _⟩

theorem Ev.var {x : Str} {pos : Pos} {d : D} (h : (x, d) ∈ ρ) (hd : (x == ("__debug__" : Str)) = false := by decide) : Ev c n sc ρ mu (.Name x pos) d := .mk fun ok A E env s₀ g own F₀ s hsc ev room S => by
  obtain ⟨m, hn, hv⟩ := S.vars
  obtain ⟨v, r, q⟩ := hv x d h
  rcases q with ⟨hk, hm⟩ | ⟨hk, cc, hc, _, hcell⟩
  · exact wpAny_Name (wpAny_loadName_local ev.kind hk hn hm ⟨kpRefl s, r⟩) hd
  · exact wpAny_Name (wpAny_loadName_cell ev.kind hk hc hcell ⟨kpRefl s, r⟩) hd

theorem Ev.glob {x : Str} {pos : Pos} {v : Value} (hk : sc.names.lookup x = some .globalImplicit) (e : nsIn c.K mainGlobals x = some (some v)) (hd : (x == ("__debug__" : Str)) = false := by decide) :
    Ev c n sc ρ mu (.Name x pos) (.ptr v) := .mk fun ok A E env s₀ g own F₀ s hsc ev room S => by
  refine Name_function_global ev.kind (by unfold Env.kindOf; rw [hsc]; exact hk) (loadGlobal_global (mg := c.mg) ?_ (mg_of ok.X ok.T.g e) ⟨kpRefl s, .ptr v⟩) hd
  rw [ev.globals]; exact ok.T.g.keeps S.b0
theorem Ev.globI {x : Str} {pos : Pos} {i : Int} {t : Tok} (hk : sc.names.lookup x = some .globalImplicit) (e : nsIn c.K mainGlobals x = some (some (.int i t))) (hd : (x == ("__debug__" : Str)) = false := by decide) :
    Ev c n sc ρ mu (.Name x pos) (.int i) := .mk fun ok A E env s₀ g own F₀ s hsc ev room S => by
  refine Name_function_global ev.kind (by unfold Env.kindOf; rw [hsc]; exact hk) (loadGlobal_global (mg := c.mg) ?_ (mg_of ok.X ok.T.g e) ⟨kpRefl s, .int _ _⟩) hd
  rw [ev.globals]; exact ok.T.g.keeps S.b0
theorem Ev.blt {x : Str} {pos : Pos} {v : Value} (hk : sc.names.lookup x = some .globalImplicit) (e : nsIn c.K mainGlobals x = some none) (hv : bootBuiltins x = some v) (hn : x ≠ "__name__" := by decide) (hd : (x == ("__debug__" : Str)) = false := by decide) :
    Ev c n sc ρ mu (.Name x pos) (.ptr v) := .mk fun ok A E env s₀ g own F₀ s hsc ev room S => by
  refine Name_function_global ev.kind (by unfold Env.kindOf; rw [hsc]; exact hk) (loadGlobal_builtin (mg := c.mg) (mb := c.mb) ?_ (mg_none_of ok.X ok.T.g e) ?_ ((ok.T.builtins x hn).trans hv) ⟨kpRefl s, .ptr v⟩) hd
  · rw [ev.globals]; exact ok.T.g.keeps S.b0
  · rw [ev.builtins]; exact ok.T.b.keeps S.b0

-- operators
theorem Ev.bin {l r : Expr} {op : Operator} {pos : Pos} {d1 d2 d : D} (h1 : Ev c n sc ρ mu l d1) (h2 : Ev c n sc ρ mu r d2) (h : BinV op d1 d2 d) : Ev c n sc ρ mu (.BinOp l op r pos) d := .mk fun ok A E env s₀ g own F₀ s hsc ev room S => by
  refine wpAny_BinOp (wpAny_mono (h1.run ok A E env s₀ g own F₀ s hsc ev room S) (fun v1 s1 q1 => ?_) fun _ _ e => e)
  have S1 := S.more q1.1
  refine wpAny_mono (h2.run ok A E env s₀ g own F₀ s1 hsc ev room S1) (fun v2 s2 q2 => ?_) fun _ _ e => e
  have S2 := S1.more q2.1
  exact wpAny_mono (h.run c.prog c.w A E (own ++ F₀) s2 v1 v2 room.handled (S2.nolimit ok) S2.lives (q1.2.keeps (kpLe q2.1)) q2.2) (fun v s3 q3 => ⟨kpTrans q1.1 (kpTrans q2.1 q3.1), q3.2⟩) fun _ _ e => e

theorem Ev.cmp {l r : Expr} {op : CmpOp} {pos : Pos} {d1 d2 : D} {b : Bool} (h1 : Ev c n sc ρ mu l d1) (h2 : Ev c n sc ρ mu r d2) (h : CmpV op d1 d2 b) (hm : behindInMarks op r = false := by with_unfolding_all rfl) :
    Ev c n sc ρ mu (.Compare l [op] [r] pos) (.bool b) := .mk fun ok A E env s₀ g own F₀ s hsc ev room S => by
  refine wpAny_Compare1 (wpAny_mono (h1.run ok A E env s₀ g own F₀ s hsc ev room S) (fun v1 s1 q1 => ?_) fun _ _ e => e) hm
  have S1 := S.more q1.1
  refine wpAny_mono (h2.run ok A E env s₀ g own F₀ s1 hsc ev room S1) (fun v2 s2 q2 => ?_) fun _ _ e => e
  have S2 := S1.more q2.1
  refine wpAny_mono (h.run c.prog c.w A E (own ++ F₀) s2 v1 v2 room.handled room.cl64 (S2.nolimit ok) S2.lives (q1.2.keeps (kpLe q2.1)) q2.2) (fun v s3 q3 => ?_) fun _ _ e => e
  obtain ⟨k3, rfl⟩ := q3
  exact ⟨kpTrans q1.1 (kpTrans q2.1 k3), .bool b⟩
theorem Tr.cmp {l r : Expr} {op : CmpOp} {pos : Pos} {d1 d2 : D} {b : Bool} (h1 : Ev c n sc ρ mu l d1) (h2 : Ev c n sc ρ mu r d2) (h : CmpV op d1 d2 b) (hm : behindInMarks op r = false := by with_unfolding_all rfl) :
    Tr c n sc ρ mu (.Compare l [op] [r] pos) b := .mk fun ok A E env s₀ g own F₀ s hsc ev room S => by
  refine wpAny_isTrue_Compare1 (wpAny_mono (h1.run ok A E env s₀ g own F₀ s hsc ev room S) (fun v1 s1 q1 => ?_) fun _ _ e => e) hm
  have S1 := S.more q1.1
  refine wpAny_mono (h2.run ok A E env s₀ g own F₀ s1 hsc ev room S1) (fun v2 s2 q2 => ?_) fun _ _ e => e
  have S2 := S1.more q2.1
  refine wpAny_mono (h.run c.prog c.w A E (own ++ F₀) s2 v1 v2 room.handled room.cl64 (S2.nolimit ok) S2.lives (q1.2.keeps (kpLe q2.1)) q2.2) (fun v s3 q3 => ?_) fun _ _ e => e
  obtain ⟨k3, rfl⟩ := q3
  exact wpAny_truthy_bool ⟨kpTrans q1.1 (kpTrans q2.1 k3), rfl⟩

/-- a test that is no not, and, or, if, comparison -/
theorem Tr.plain {e : Expr} {d : D} {b : Bool} (h1 : Ev c n sc ρ mu e d) (h : TruV d b) (he : ∀ env : Env, isTrue e env (eval e env) = (do let v ← eval e env; standAt e.pos; holding [v] (truthy v)) := by intro _; rfl) :
    Tr c n sc ρ mu e b := .mk fun ok A E env s₀ g own F₀ s hsc ev room S => by
  rw [he]
  refine wpAny_bind (wpAny_mono (h1.run ok A E env s₀ g own F₀ s hsc ev room S) (fun v s1 q1 => ?_) fun _ _ e => e)
  refine wpAny_bind (wpAny_standAt (wpAny_holding ?_))
  exact wpAny_mono (h.run c.prog c.w A E _ s1 v q1.2) (fun r s2 q2 => ⟨kpTrans q1.1 q2.1, q2.2⟩) fun _ _ e => e
theorem Tr.not {e : Expr} {pos : Pos} {b : Bool} (h : Tr c n sc ρ mu e b) : Tr c n sc ρ mu (.UnaryOp .Not e pos) (!b) := .mk fun ok A E env s₀ g own F₀ s hsc ev room S =>
  wpAny_isTrue_Not (wpAny_mono (h.run ok A E env s₀ g own F₀ s hsc ev room S) (fun _ _ q => ⟨q.1, by rw [q.2]⟩) fun _ _ e => e)
theorem Tr.and2 {x y : Expr} {pos : Pos} {a b : Bool} (h1 : Tr c n sc ρ mu x a) (h2 : a = true → Tr c n sc ρ mu y b) : Tr c n sc ρ mu (.BoolOp .And [x, y] pos) (a && b) := .mk fun ok A E env s₀ g own F₀ s hsc ev room S => by
  rw [arm_isTrue_BoolOp, arm_allTrue_cons]
  refine wpAny_bind (wpAny_mono (h1.run ok A E env s₀ g own F₀ s hsc ev room S) (fun r s1 q1 => ?_) fun _ _ e => e)
  obtain ⟨k1, rfl⟩ := q1
  cases r with
  | false => exact wpAny_pure ⟨k1, rfl⟩
  | true =>
    show wpAny _ _ (allTrue .And [y] env) _ _ _
    rw [arm_allTrue_cons]
    refine wpAny_bind (wpAny_mono ((h2 rfl).run ok A E env s₀ g own F₀ s1 hsc ev room (S.more k1)) (fun r s2 q2 => ?_) fun _ _ e => e)
    obtain ⟨k2, rfl⟩ := q2
    cases r with
    | false => exact wpAny_pure ⟨kpTrans k1 k2, rfl⟩
    | true => exact wpAny_pure ⟨kpTrans k1 k2, rfl⟩
theorem Tr.or2 {x y : Expr} {pos : Pos} {a b : Bool} (h1 : Tr c n sc ρ mu x a) (h2 : a = false → Tr c n sc ρ mu y b) : Tr c n sc ρ mu (.BoolOp .Or [x, y] pos) (a || b) := .mk fun ok A E env s₀ g own F₀ s hsc ev room S => by
  rw [arm_isTrue_BoolOp, arm_allTrue_cons]
  refine wpAny_bind (wpAny_mono (h1.run ok A E env s₀ g own F₀ s hsc ev room S) (fun r s1 q1 => ?_) fun _ _ e => e)
  obtain ⟨k1, rfl⟩ := q1
  cases r with
  | true => exact wpAny_pure ⟨k1, rfl⟩
  | false =>
    show wpAny _ _ (allTrue .Or [y] env) _ _ _
    rw [arm_allTrue_cons]
    refine wpAny_bind (wpAny_mono ((h2 rfl).run ok A E env s₀ g own F₀ s1 hsc ev room (S.more k1)) (fun r s2 q2 => ?_) fun _ _ e => e)
    obtain ⟨k2, rfl⟩ := q2
    cases r with
    | false => exact wpAny_pure ⟨kpTrans k1 k2, rfl⟩
    | true => exact wpAny_pure ⟨kpTrans k1 k2, rfl⟩
theorem Ev.ifx {t x y : Expr} {pos : Pos} {b : Bool} {d : D} (h : Tr c n sc ρ mu t b) (h1 : b = true → Ev c n sc ρ mu x d) (h2 : b = false → Ev c n sc ρ mu y d) : Ev c n sc ρ mu (.IfExp t x y pos) d := .mk fun ok A E env s₀ g own F₀ s hsc ev room S => by
  refine wpAny_IfExp (wpAny_mono (h.run ok A E env s₀ g own F₀ s hsc ev room S) (fun r s1 q1 => ?_) fun _ _ e => e)
  obtain ⟨k1, rfl⟩ := q1
  cases r with
  | true => exact wpAny_mono ((h1 rfl).run ok A E env s₀ g own F₀ s1 hsc ev room (S.more k1)) (fun v s2 q => ⟨kpTrans k1 q.1, q.2⟩) fun _ _ e => e
  | false => exact wpAny_mono ((h2 rfl).run ok A E env s₀ g own F₀ s1 hsc ev room (S.more k1)) (fun v s2 q => ⟨kpTrans k1 q.1, q.2⟩) fun _ _ e => e

-- displays
theorem EvL.nil : EvL c n sc ρ mu [] [] := .mk fun _ _ _ _ _ _ _ _ s _ _ _ _ _ => spliced_nil ⟨kpRefl s, .nil⟩
theorem EvL.cons {e : Expr} {es : List Expr} {d : D} {ds : List D} (h1 : Ev c n sc ρ mu e d) (h2 : EvL c n sc ρ mu es ds) (he : ∀ env, starEach (e :: es) env = (false, eval e env) :: starEach es env := by intro _; rfl) : EvL c n sc ρ mu (e :: es) (d :: ds) := .mk <|
  fun ok A E env s₀ g own F₀ s pos hsc ev room S => by
    rw [he]
    show wpAny _ _ (spliced ((false, eval e env) :: backTo pos (starEach es env))) _ _ _
    refine spliced_cons (wpAny_mono (h1.run ok A E env s₀ g own F₀ s hsc ev room S) (fun v s1 q1 => ?_) fun _ _ e => e)
    exact wpAny_mono (h2.run ok A E env s₀ g own F₀ s1 pos hsc ev room (S.more q1.1)) (fun vs s2 q2 => ⟨kpTrans q1.1 q2.1, .cons (q1.2.keeps (kpLe q2.1)) q2.2⟩) fun _ _ e => e
theorem Ev.list {es : List Expr} {pos : Pos} {ds : List D} (h : EvL c n sc ρ mu es ds) (hz : ds.length ≤ 1000 := by decide) : Ev c n sc ρ mu (.List es pos) (.lst ds) := .mk fun ok A E env s₀ g own F₀ s hsc ev room S => by
  refine wpAny_List_spliced (wpAny_mono (h.run ok A E env s₀ g own F₀ s pos hsc ev room S) (fun vs s1 q1 => ?_) fun _ _ e => e)
  have S1 := S.more q1.1
  refine ⟨by rw [q1.2.length, sizeLine_eq]; omega, kpTrans q1.1 (kpPush s1 _), .lst S1.lives.off (Heap.get?_push_size _ rfl) (q1.2.keeps fun _ _ e => Heap.get?_push_of_some _ e)⟩
theorem Ev.tuple {es : List Expr} {k : Nat} {pos : Pos} {ds : List D} (h : EvL c n sc ρ mu es ds) (hz : ds.length ≤ 1000 := by decide) : Ev c n sc ρ mu (.Tuple es k pos) (.tup ds) := .mk fun ok A E env s₀ g own F₀ s hsc ev room S => by
  refine wpAny_Tuple_spliced (wpAny_mono (h.run ok A E env s₀ g own F₀ s pos hsc ev room S) (fun vs s1 q1 => ?_) fun _ _ e => e)
  have S1 := S.more q1.1
  refine ⟨by rw [q1.2.length, sizeLine_eq]; omega, kpTrans q1.1 (kpPush s1 _), .tup S1.lives.off (Heap.get?_push_size _ rfl) (q1.2.keeps fun _ _ e => Heap.get?_push_of_some _ e)⟩
end

end Mine

namespace Mine

-- arithmetic
theorem BinV.add {a b : Int} : BinV .Add (.int a) (.int b) (.int (a + b)) := .mk fun prog w A E F s v1 v2 hA hl live r1 r2 => by
  (first | refine Rep.eint r1 fun _ => ?_ | refine Rep.estr r1 fun _ => ?_ | refine Rep.eflt r1 fun _ => ?_ | refine Rep.eptr r1 ?_ | refine Rep.ebool r1 ?_); (first | refine Rep.eint r2 fun _ => ?_ | refine Rep.estr r2 fun _ => ?_ | refine Rep.eflt r2 fun _ => ?_ | refine Rep.eptr r2 ?_ | refine Rep.ebool r2 ?_); exact P.add_int ⟨kpTok s _, .int _ _⟩
theorem BinV.sub {a b : Int} : BinV .Sub (.int a) (.int b) (.int (a - b)) := .mk fun prog w A E F s v1 v2 hA hl live r1 r2 => by
  (first | refine Rep.eint r1 fun _ => ?_ | refine Rep.estr r1 fun _ => ?_ | refine Rep.eflt r1 fun _ => ?_ | refine Rep.eptr r1 ?_ | refine Rep.ebool r1 ?_); (first | refine Rep.eint r2 fun _ => ?_ | refine Rep.estr r2 fun _ => ?_ | refine Rep.eflt r2 fun _ => ?_ | refine Rep.eptr r2 ?_ | refine Rep.ebool r2 ?_); exact P.sub_int ⟨kpTok s _, .int _ _⟩
theorem BinV.mul {a b : Int} (h : IntMulOk a b) : BinV .Mult (.int a) (.int b) (.int (a * b)) := .mk fun prog w A E F s v1 v2 hA hl live r1 r2 => by
  (first | refine Rep.eint r1 fun _ => ?_ | refine Rep.estr r1 fun _ => ?_ | refine Rep.eflt r1 fun _ => ?_ | refine Rep.eptr r1 ?_ | refine Rep.ebool r1 ?_); (first | refine Rep.eint r2 fun _ => ?_ | refine Rep.estr r2 fun _ => ?_ | refine Rep.eflt r2 fun _ => ?_ | refine Rep.eptr r2 ?_ | refine Rep.ebool r2 ?_); exact P.mul_int ⟨kpTok s _, .int _ _⟩ h
theorem BinV.fdiv {a b : Int} (h0 : b ≠ 0) (h : b.natAbs < 1073741824) : BinV .FloorDiv (.int a) (.int b) (.int (a.fdiv b)) := .mk fun prog w A E F s v1 v2 hA hl live r1 r2 => by
  (first | refine Rep.eint r1 fun _ => ?_ | refine Rep.estr r1 fun _ => ?_ | refine Rep.eflt r1 fun _ => ?_ | refine Rep.eptr r1 ?_ | refine Rep.ebool r1 ?_); (first | refine Rep.eint r2 fun _ => ?_ | refine Rep.estr r2 fun _ => ?_ | refine Rep.eflt r2 fun _ => ?_ | refine Rep.eptr r2 ?_ | refine Rep.ebool r2 ?_); exact floordiv_int h0 ⟨kpTok s _, .int _ _⟩ (.inl (PyProof.noPylong_small h))
theorem BinV.fmod {a b : Int} (h0 : b ≠ 0) : BinV .Mod (.int a) (.int b) (.int (a.fmod b)) := .mk fun prog w A E F s v1 v2 hA hl live r1 r2 => by
  (first | refine Rep.eint r1 fun _ => ?_ | refine Rep.estr r1 fun _ => ?_ | refine Rep.eflt r1 fun _ => ?_ | refine Rep.eptr r1 ?_ | refine Rep.ebool r1 ?_); (first | refine Rep.eint r2 fun _ => ?_ | refine Rep.estr r2 fun _ => ?_ | refine Rep.eflt r2 fun _ => ?_ | refine Rep.eptr r2 ?_ | refine Rep.ebool r2 ?_); exact mod_int' h0 ⟨kpTok s _, .int _ _⟩
theorem BinV.and {a b : Int} : BinV .BitAnd (.int a) (.int b) (.int (Builtin.bitAnd a b)) := .mk fun prog w A E F s v1 v2 hA hl live r1 r2 => by
  (first | refine Rep.eint r1 fun _ => ?_ | refine Rep.estr r1 fun _ => ?_ | refine Rep.eflt r1 fun _ => ?_ | refine Rep.eptr r1 ?_ | refine Rep.ebool r1 ?_); (first | refine Rep.eint r2 fun _ => ?_ | refine Rep.estr r2 fun _ => ?_ | refine Rep.eflt r2 fun _ => ?_ | refine Rep.eptr r2 ?_ | refine Rep.ebool r2 ?_); exact and_int ⟨kpTok s _, .int _ _⟩
theorem BinV.or {a b : Int} : BinV .BitOr (.int a) (.int b) (.int (Builtin.bitOr a b)) := .mk fun prog w A E F s v1 v2 hA hl live r1 r2 => by
  (first | refine Rep.eint r1 fun _ => ?_ | refine Rep.estr r1 fun _ => ?_ | refine Rep.eflt r1 fun _ => ?_ | refine Rep.eptr r1 ?_ | refine Rep.ebool r1 ?_); (first | refine Rep.eint r2 fun _ => ?_ | refine Rep.estr r2 fun _ => ?_ | refine Rep.eflt r2 fun _ => ?_ | refine Rep.eptr r2 ?_ | refine Rep.ebool r2 ?_); exact or_int ⟨kpTok s _, .int _ _⟩
theorem BinV.shr {a b : Int} (h : 0 ≤ b) : BinV .RShift (.int a) (.int b) (.int (a.fdiv (2 ^ b.toNat))) := .mk fun prog w A E F s v1 v2 hA hl live r1 r2 => by
  (first | refine Rep.eint r1 fun _ => ?_ | refine Rep.estr r1 fun _ => ?_ | refine Rep.eflt r1 fun _ => ?_ | refine Rep.eptr r1 ?_ | refine Rep.ebool r1 ?_); (first | refine Rep.eint r2 fun _ => ?_ | refine Rep.estr r2 fun _ => ?_ | refine Rep.eflt r2 fun _ => ?_ | refine Rep.eptr r2 ?_ | refine Rep.ebool r2 ?_); exact rshift_int h ⟨kpTok s _, .int _ _⟩
theorem BinV.pow {a b : Int} (h0 : 0 ≤ b) (h1 : b ≤ 1000000) (h2 : a.natAbs < 2 ^ 64) : BinV .Pow (.int a) (.int b) (.int (a ^ b.toNat)) := .mk fun prog w A E F s v1 v2 hA hl live r1 r2 => by
  (first | refine Rep.eint r1 fun _ => ?_ | refine Rep.estr r1 fun _ => ?_ | refine Rep.eflt r1 fun _ => ?_ | refine Rep.eptr r1 ?_ | refine Rep.ebool r1 ?_); (first | refine Rep.eint r2 fun _ => ?_ | refine Rep.estr r2 fun _ => ?_ | refine Rep.eflt r2 fun _ => ?_ | refine Rep.eptr r2 ?_ | refine Rep.ebool r2 ?_); exact pow_int_small h0 h1 h2 ⟨kpTok s _, .int _ _⟩
theorem BinV.cat {x y : Str} (h : x.length + y.length ≤ 1000) : BinV .Add (.str x) (.str y) (.str (x ++ y)) := .mk fun prog w A E F s v1 v2 hA hl live r1 r2 => by
  (first | refine Rep.eint r1 fun _ => ?_ | refine Rep.estr r1 fun _ => ?_ | refine Rep.eflt r1 fun _ => ?_ | refine Rep.eptr r1 ?_ | refine Rep.ebool r1 ?_); (first | refine Rep.eint r2 fun _ => ?_ | refine Rep.estr r2 fun _ => ?_ | refine Rep.eflt r2 fun _ => ?_ | refine Rep.eptr r2 ?_ | refine Rep.ebool r2 ?_); exact PyProof.Rows.add_str (fun t' tk => ⟨kpTok s _, .str _ _⟩) (by rw [sizeLine_eq]; omega)
theorem BinV.fadd {a b : UInt64} : BinV .Add (.flt a) (.flt b) (.flt (Float64.add a b)) := .mk fun prog w A E F s v1 v2 hA hl live r1 r2 => by
  (first | refine Rep.eint r1 fun _ => ?_ | refine Rep.estr r1 fun _ => ?_ | refine Rep.eflt r1 fun _ => ?_ | refine Rep.eptr r1 ?_ | refine Rep.ebool r1 ?_); (first | refine Rep.eint r2 fun _ => ?_ | refine Rep.estr r2 fun _ => ?_ | refine Rep.eflt r2 fun _ => ?_ | refine Rep.eptr r2 ?_ | refine Rep.ebool r2 ?_); exact add_float ⟨kpTok s _, .flt _ _⟩
theorem BinV.fsub {a b : UInt64} : BinV .Sub (.flt a) (.flt b) (.flt (Float64.sub a b)) := .mk fun prog w A E F s v1 v2 hA hl live r1 r2 => by
  (first | refine Rep.eint r1 fun _ => ?_ | refine Rep.estr r1 fun _ => ?_ | refine Rep.eflt r1 fun _ => ?_ | refine Rep.eptr r1 ?_ | refine Rep.ebool r1 ?_); (first | refine Rep.eint r2 fun _ => ?_ | refine Rep.estr r2 fun _ => ?_ | refine Rep.eflt r2 fun _ => ?_ | refine Rep.eptr r2 ?_ | refine Rep.ebool r2 ?_); exact sub_float ⟨kpTok s _, .flt _ _⟩
theorem BinV.fdivF {a b : UInt64} (h : ¬ Float64.isZero b = true) : BinV .Div (.flt a) (.flt b) (.flt (Float64.div a b)) := .mk fun prog w A E F s v1 v2 hA hl live r1 r2 => by
  (first | refine Rep.eint r1 fun _ => ?_ | refine Rep.estr r1 fun _ => ?_ | refine Rep.eflt r1 fun _ => ?_ | refine Rep.eptr r1 ?_ | refine Rep.ebool r1 ?_); (first | refine Rep.eint r2 fun _ => ?_ | refine Rep.estr r2 fun _ => ?_ | refine Rep.eflt r2 fun _ => ?_ | refine Rep.eptr r2 ?_ | refine Rep.ebool r2 ?_); exact truediv_float_or hA (fun q => absurd q h) fun _ => ⟨kpTok s _, .flt _ _⟩
theorem BinV.fmodF {a b : UInt64} (h : ¬ Float64.isZero b = true) : BinV .Mod (.flt a) (.flt b) (.flt (Float64.divmod a b).snd) := .mk fun prog w A E F s v1 v2 hA hl live r1 r2 => by
  (first | refine Rep.eint r1 fun _ => ?_ | refine Rep.estr r1 fun _ => ?_ | refine Rep.eflt r1 fun _ => ?_ | refine Rep.eptr r1 ?_ | refine Rep.ebool r1 ?_); (first | refine Rep.eint r2 fun _ => ?_ | refine Rep.estr r2 fun _ => ?_ | refine Rep.eflt r2 fun _ => ?_ | refine Rep.eptr r2 ?_ | refine Rep.ebool r2 ?_); exact AutoFloatOps.mod_1 h ⟨kpTok s _, .flt _ _⟩
theorem BinV.idiv {a b : Int} (h0 : ¬ (b == 0) = true) (h : ¬ Float64.isInf (Float64.ofFrac (decide (a < 0) != decide (b < 0)) a.natAbs b.natAbs) = true) :
    BinV .Div (.int a) (.int b) (.flt (Float64.ofFrac (decide (a < 0) != decide (b < 0)) a.natAbs b.natAbs)) := .mk fun prog w A E F s v1 v2 hA hl live r1 r2 => by
  (first | refine Rep.eint r1 fun _ => ?_ | refine Rep.estr r1 fun _ => ?_ | refine Rep.eflt r1 fun _ => ?_ | refine Rep.eptr r1 ?_ | refine Rep.ebool r1 ?_); (first | refine Rep.eint r2 fun _ => ?_ | refine Rep.estr r2 fun _ => ?_ | refine Rep.eflt r2 fun _ => ?_ | refine Rep.eptr r2 ?_ | refine Rep.ebool r2 ?_); exact AutoIntOps.truediv_2 h0 h ⟨kpTok s _, .flt _ _⟩
theorem BinV.addL {ds es : List D} (h : ds.length + es.length ≤ 1000) : BinV .Add (.lst ds) (.lst es) (.lst (ds ++ es)) := .mk fun prog w A E F s v1 v2 hA hl live r1 r2 => by
  refine Rep.elst r1 fun a vs n ha ho q1 => ?_
  refine Rep.elst r2 fun b us n2 hb ho2 q2 => ?_
  have e : vs.toArray ++ us.toArray = (vs ++ us).toArray := by simp
  refine concat_meets ⟨_, ho, rfl⟩ ⟨_, ho2, rfl⟩ noFill_list_add seq_list_add PySem.F.slot_list_add PySem.F.entry_list_add (PySem.F.args_list_add_2 _ _)
    (list_addW a b vs.toArray us.toArray n n2 none none #[] #[] (by have := q1.length; have := q2.length; rw [sizeLine_eq]; simp; omega)) ⟨ho, ho2, ?_⟩
  rw [e]
  exact ⟨kpPush s _, .lst live.off (Heap.get?_push_size _ rfl) ((q1.append q2).keeps fun _ _ e => Heap.get?_push_of_some _ e)⟩

theorem InpV.add {a b : Int} : InpV .Add (.int a) (.int b) (.int (a + b)) := .mk fun prog w A E F s v1 v2 hA hl live r1 r2 => by
  (first | refine Rep.eint r1 fun _ => ?_ | refine Rep.estr r1 fun _ => ?_ | refine Rep.eflt r1 fun _ => ?_ | refine Rep.eptr r1 ?_ | refine Rep.ebool r1 ?_); (first | refine Rep.eint r2 fun _ => ?_ | refine Rep.estr r2 fun _ => ?_ | refine Rep.eflt r2 fun _ => ?_ | refine Rep.eptr r2 ?_ | refine Rep.ebool r2 ?_); exact P.iadd_int ⟨kpTok s _, .int _ _⟩

-- comparisons
section
variable {a b : Int}
theorem CmpV.eq : CmpV .Eq (.int a) (.int b) (a == b) := .mk fun prog w A E F s v1 v2 hA hu hl live r1 r2 => by (first | refine Rep.eint r1 fun _ => ?_ | refine Rep.estr r1 fun _ => ?_ | refine Rep.eflt r1 fun _ => ?_ | refine Rep.eptr r1 ?_ | refine Rep.ebool r1 ?_); (first | refine Rep.eint r2 fun _ => ?_ | refine Rep.estr r2 fun _ => ?_ | refine Rep.eflt r2 fun _ => ?_ | refine Rep.eptr r2 ?_ | refine Rep.ebool r2 ?_); exact P.eq_int ⟨kpRefl s, rfl⟩
theorem CmpV.ne : CmpV .NotEq (.int a) (.int b) (a != b) := .mk fun prog w A E F s v1 v2 hA hu hl live r1 r2 => by (first | refine Rep.eint r1 fun _ => ?_ | refine Rep.estr r1 fun _ => ?_ | refine Rep.eflt r1 fun _ => ?_ | refine Rep.eptr r1 ?_ | refine Rep.ebool r1 ?_); (first | refine Rep.eint r2 fun _ => ?_ | refine Rep.estr r2 fun _ => ?_ | refine Rep.eflt r2 fun _ => ?_ | refine Rep.eptr r2 ?_ | refine Rep.ebool r2 ?_); exact P.ne_int ⟨kpRefl s, rfl⟩
theorem CmpV.lt : CmpV .Lt (.int a) (.int b) (decide (a < b)) := .mk fun prog w A E F s v1 v2 hA hu hl live r1 r2 => by (first | refine Rep.eint r1 fun _ => ?_ | refine Rep.estr r1 fun _ => ?_ | refine Rep.eflt r1 fun _ => ?_ | refine Rep.eptr r1 ?_ | refine Rep.ebool r1 ?_); (first | refine Rep.eint r2 fun _ => ?_ | refine Rep.estr r2 fun _ => ?_ | refine Rep.eflt r2 fun _ => ?_ | refine Rep.eptr r2 ?_ | refine Rep.ebool r2 ?_); exact P.lt_int ⟨kpRefl s, rfl⟩
theorem CmpV.gt : CmpV .Gt (.int a) (.int b) (decide (a > b)) := .mk fun prog w A E F s v1 v2 hA hu hl live r1 r2 => by (first | refine Rep.eint r1 fun _ => ?_ | refine Rep.estr r1 fun _ => ?_ | refine Rep.eflt r1 fun _ => ?_ | refine Rep.eptr r1 ?_ | refine Rep.ebool r1 ?_); (first | refine Rep.eint r2 fun _ => ?_ | refine Rep.estr r2 fun _ => ?_ | refine Rep.eflt r2 fun _ => ?_ | refine Rep.eptr r2 ?_ | refine Rep.ebool r2 ?_); exact P.gt_int ⟨kpRefl s, rfl⟩
theorem CmpV.le : CmpV .LtE (.int a) (.int b) (decide (a ≤ b)) := .mk fun prog w A E F s v1 v2 hA hu hl live r1 r2 => by (first | refine Rep.eint r1 fun _ => ?_ | refine Rep.estr r1 fun _ => ?_ | refine Rep.eflt r1 fun _ => ?_ | refine Rep.eptr r1 ?_ | refine Rep.ebool r1 ?_); (first | refine Rep.eint r2 fun _ => ?_ | refine Rep.estr r2 fun _ => ?_ | refine Rep.eflt r2 fun _ => ?_ | refine Rep.eptr r2 ?_ | refine Rep.ebool r2 ?_); exact P.le_int ⟨kpRefl s, rfl⟩
theorem CmpV.ge : CmpV .GtE (.int a) (.int b) (decide (a ≥ b)) := .mk fun prog w A E F s v1 v2 hA hu hl live r1 r2 => by (first | refine Rep.eint r1 fun _ => ?_ | refine Rep.estr r1 fun _ => ?_ | refine Rep.eflt r1 fun _ => ?_ | refine Rep.eptr r1 ?_ | refine Rep.ebool r1 ?_); (first | refine Rep.eint r2 fun _ => ?_ | refine Rep.estr r2 fun _ => ?_ | refine Rep.eflt r2 fun _ => ?_ | refine Rep.eptr r2 ?_ | refine Rep.ebool r2 ?_); exact P.ge_int ⟨kpRefl s, rfl⟩
end
theorem CmpV.seq {x y : Str} : CmpV .Eq (.str x) (.str y) (x == y) := .mk fun prog w A E F s v1 v2 hA hu hl live r1 r2 => by (first | refine Rep.eint r1 fun _ => ?_ | refine Rep.estr r1 fun _ => ?_ | refine Rep.eflt r1 fun _ => ?_ | refine Rep.eptr r1 ?_ | refine Rep.ebool r1 ?_); (first | refine Rep.eint r2 fun _ => ?_ | refine Rep.estr r2 fun _ => ?_ | refine Rep.eflt r2 fun _ => ?_ | refine Rep.eptr r2 ?_ | refine Rep.ebool r2 ?_); exact PyProof.Rows.eq_str ⟨kpRefl s, rfl⟩
theorem CmpV.sne {x y : Str} : CmpV .NotEq (.str x) (.str y) (!(x == y)) := .mk fun prog w A E F s v1 v2 hA hu hl live r1 r2 => by (first | refine Rep.eint r1 fun _ => ?_ | refine Rep.estr r1 fun _ => ?_ | refine Rep.eflt r1 fun _ => ?_ | refine Rep.eptr r1 ?_ | refine Rep.ebool r1 ?_); (first | refine Rep.eint r2 fun _ => ?_ | refine Rep.estr r2 fun _ => ?_ | refine Rep.eflt r2 fun _ => ?_ | refine Rep.eptr r2 ?_ | refine Rep.ebool r2 ?_); exact PyProof.Rows.ne_str ⟨kpRefl s, rfl⟩
section
variable {a b : UInt64}
theorem CmpV.feq : CmpV .Eq (.flt a) (.flt b) (Float64.cmp a b == some Ordering.eq) := .mk fun prog w A E F s v1 v2 hA hu hl live r1 r2 => by (first | refine Rep.eint r1 fun _ => ?_ | refine Rep.estr r1 fun _ => ?_ | refine Rep.eflt r1 fun _ => ?_ | refine Rep.eptr r1 ?_ | refine Rep.ebool r1 ?_); (first | refine Rep.eint r2 fun _ => ?_ | refine Rep.estr r2 fun _ => ?_ | refine Rep.eflt r2 fun _ => ?_ | refine Rep.eptr r2 ?_ | refine Rep.ebool r2 ?_); exact AutoFloatOps.eq_0 ⟨kpRefl s, rfl⟩
theorem CmpV.flt : CmpV .Lt (.flt a) (.flt b) (Float64.cmp a b == some Ordering.lt) := .mk fun prog w A E F s v1 v2 hA hu hl live r1 r2 => by (first | refine Rep.eint r1 fun _ => ?_ | refine Rep.estr r1 fun _ => ?_ | refine Rep.eflt r1 fun _ => ?_ | refine Rep.eptr r1 ?_ | refine Rep.ebool r1 ?_); (first | refine Rep.eint r2 fun _ => ?_ | refine Rep.estr r2 fun _ => ?_ | refine Rep.eflt r2 fun _ => ?_ | refine Rep.eptr r2 ?_ | refine Rep.ebool r2 ?_); exact AutoFloatOps.lt_0 ⟨kpRefl s, rfl⟩
theorem CmpV.fle : CmpV .LtE (.flt a) (.flt b) (Float64.cmp a b == some Ordering.lt || Float64.cmp a b == some Ordering.eq) := .mk fun prog w A E F s v1 v2 hA hu hl live r1 r2 => by (first | refine Rep.eint r1 fun _ => ?_ | refine Rep.estr r1 fun _ => ?_ | refine Rep.eflt r1 fun _ => ?_ | refine Rep.eptr r1 ?_ | refine Rep.ebool r1 ?_); (first | refine Rep.eint r2 fun _ => ?_ | refine Rep.estr r2 fun _ => ?_ | refine Rep.eflt r2 fun _ => ?_ | refine Rep.eptr r2 ?_ | refine Rep.ebool r2 ?_); exact AutoFloatOps.le_0 ⟨kpRefl s, rfl⟩
end

theorem TruV.bool {b : Bool} : TruV (.bool b) b := .mk fun prog w A E F s v r => by refine Rep.ebool r ?_; exact wpAny_truthy_bool ⟨kpRefl s, rfl⟩
theorem TruV.int {a : Int} : TruV (.int a) (a != 0) := .mk fun prog w A E F s v r => by refine Rep.eint r fun _ => ?_; exact P.truthy_int ⟨kpRefl s, rfl⟩

-- data compared
mutual
noncomputable def toP : D → PyData
  | .bool b => .bool b
  | .int i => .int i
  | .str x => .str x
  | .tup ds => .tuple (toPs ds)
  | .lst ds => .list (toPs ds)
  | .none => .none
  | .flt _ => .none
  | .dct _ => .none
  | .rng _ _ => .none
  | .vals _ => .none
  | .its _ => .none
  | .ptr _ => .none
  | .fact _ => .none
noncomputable def toPs : List D → List PyData
  | [] => []
  | d :: ds => toP d :: toPs ds
end
noncomputable def okD : Nat → D → Bool
  | _, .none => true
  | _, .int _ => true
  | _, .bool _ => true
  | _, .str x => PyData.strOk x
  | n + 1, .tup ds => ds.all (okD n)
  | n + 1, .lst ds => ds.all (okD n)
  | _, _ => false

mutual
theorem Rep.reads {F : List Addr} {h : Heap} : ∀ {v : Value} {d : D} (n : Nat), Rep F h v d → okD n d = true → ∃ as, Reads h v (toP d) as
  | _, _, _, .none, _ => ⟨_, Reads.none⟩
  | _, _, _, .bool b, _ => ⟨_, Reads.bool b⟩
  | _, _, _, .int i t, _ => ⟨_, Reads.int i t⟩
  | _, _, _, .str x t, _ => ⟨_, Reads.str x t⟩
  | _, _, n, .flt _ _, hk => by cases n <;> simp [okD] at hk
  | _, _, n, .dct _ _ _ _ _, hk => by cases n <;> simp [okD] at hk
  | _, _, n, .rng _ _, hk => by cases n <;> simp [okD] at hk
  | _, _, n, .vals _ _ _ _ _ _, hk => by cases n <;> simp [okD] at hk
  | _, _, n, .its _ _ _ _ _ _, hk => by cases n <;> simp [okD] at hk
  | _, _, n, .ptr _, hk => by cases n <;> simp [okD] at hk
  | _, _, n, .fact _, hk => by cases n <;> simp [okD] at hk
  | _, _, 0, .tup _ _ _, hk => by simp [okD] at hk
  | _, _, 0, .lst _ _ _, hk => by simp [okD] at hk
  | _, _, n + 1, .tup _ ho r, hk => by
    obtain ⟨as, q⟩ := RepL.reads n r (by simpa [okD] using hk)
    rw [toP]
    exact ⟨as, reads_tuple_at ho rfl rfl (by simpa using q)⟩
  | _, _, n + 1, .lst _ ho r, hk => by
    obtain ⟨as, q⟩ := RepL.reads n r (by simpa [okD] using hk)
    rw [toP]
    exact ⟨_, reads_list_at ho rfl rfl (by simpa using q)⟩
theorem RepL.reads {F : List Addr} {h : Heap} : ∀ {vs : List Value} {ds : List D} (n : Nat), RepL F h vs ds → (∀ d ∈ ds, okD n d = true) → ∃ as, ReadsAll h vs (toPs ds) as
  | _, _, _, .nil, _ => ⟨_, ReadsAll.nil⟩
  | _, _, n, .cons hd r, hk => by
    obtain ⟨as, q⟩ := Rep.reads n hd (hk _ (.head _))
    obtain ⟨bs, p⟩ := RepL.reads n r fun d hm => hk d (.tail _ hm)
    rw [toPs]
    exact ⟨_, ReadsAll.cons q p⟩
end

theorem okD_lay : ∀ (n : Nat) (d : D), okD n d = true → (toP d).canLay0 = true ∧ (toP d).depth ≤ n := by
  have all : ∀ (n : Nat), (∀ d, okD n d = true → (toP d).canLay0 = true ∧ (toP d).depth ≤ n) → ∀ ds : List D, (∀ d ∈ ds, okD n d = true) → PyData.canLayAll0 (toPs ds) = true ∧ PyData.depthAll (toPs ds) ≤ n := by
    intro n ih ds
    induction ds with
    | nil => intro _; simp [toPs, PyData.canLayAll0, PyData.depthAll]
    | cons d ds hi =>
      intro h
      have h1 := ih d (h d (.head _))
      have h2 := hi fun e he => h e (.tail _ he)
      simp only [toPs, PyData.canLayAll0, PyData.depthAll, h1.1, h2.1, Bool.and_self, true_and]
      have a1 := h1.2
      have a2 := h2.2
      omega
  intro n
  induction n with
  | zero =>
    intro d h
    cases d <;> simp_all [okD, toP, PyData.canLay0, PyData.depth]
  | succ n ih =>
    intro d h
    cases d with
    | tup ds =>
      have q := all n ih ds (by simpa [okD] using h)
      have q2 := q.2
      simp only [toP, PyData.canLay0, PyData.depth, q.1, true_and]
      omega
    | lst ds =>
      have q := all n ih ds (by simpa [okD] using h)
      have q2 := q.2
      simp only [toP, PyData.canLay0, PyData.depth, q.1, true_and]
      omega
    | _ => simp_all [okD, toP, PyData.canLay0, PyData.depth]

theorem eqv_refl : ∀ (n : Nat) (d : D), okD n d = true → PyData.eqv (toP d) (toP d) = true := by
  have all : ∀ (n : Nat), (∀ d, okD n d = true → PyData.eqv (toP d) (toP d) = true) → ∀ ds : List D, (∀ d ∈ ds, okD n d = true) → PyData.eqvAll (toPs ds) (toPs ds) = true := by
    intro n ih ds
    induction ds with
    | nil => intro _; simp [toPs, PyData.eqvAll]
    | cons d ds hi =>
      intro h
      have h1 := ih d (h d (.head _))
      have h2 := hi fun e he => h e (.tail _ he)
      simp only [toPs, PyData.eqvAll, h1, h2, Bool.and_self]
  intro n
  induction n with
  | zero =>
    intro d h
    cases d <;> simp_all [okD, toP, PyData.eqv]
  | succ n ih =>
    intro d h
    cases d with
    | tup ds => simp only [toP, PyData.eqv]; exact all n ih ds (by simpa [okD] using h)
    | lst ds => simp only [toP, PyData.eqv]; exact all n ih ds (by simpa [okD] using h)
    | _ => simp_all [okD, toP, PyData.eqv]

theorem shaped_of {n : Nat} {d : D} (h : okD n d = true) (hn : n ≤ 9) : SeqAt.shaped (toP d) = true := by
  have l := okD_lay n d h
  unfold SeqAt.shaped; rw [l.1, Bool.true_and]; exact decide_eq_true (Nat.le_trans l.2 (Nat.le_trans hn (by decide)))

theorem CmpV.eqD {d e : D} {n k : Nat} (hd : okD n d = true) (he : okD k e = true) (hn : n ≤ 9) (hk : k ≤ 9) : CmpV .Eq d e (PyData.eqv (toP d) (toP e)) := .mk fun prog w A E F s v1 v2 hA hu hl live r1 r2 => by
  obtain ⟨as, ra⟩ := r1.reads n hd
  obtain ⟨bs, rb⟩ := r2.reads k he
  exact eq_dataH ra rb (shaped_of hd hn) (shaped_of he hk) hu ⟨kpRefl s, rfl⟩
theorem CmpV.neD {d e : D} {n k : Nat} (hd : okD n d = true) (he : okD k e = true) (hn : n ≤ 9) (hk : k ≤ 9) : CmpV .NotEq d e (!PyData.eqv (toP d) (toP e)) := .mk fun prog w A E F s v1 v2 hA hu hl live r1 r2 => by
  obtain ⟨as, ra⟩ := r1.reads n hd
  obtain ⟨bs, rb⟩ := r2.reads k he
  exact ne_dataH ra rb (shaped_of hd hn) (shaped_of he hk) hu ⟨kpRefl s, rfl⟩

theorem okD_ints (xs : List Int) : okD 1 (.lst (xs.map .int)) = true := by
  simp [okD]
theorem CmpV.eqNil {ds : List D} (h : okD 9 (.lst ds) = true) : CmpV .Eq (.lst ds) (.lst []) ds.isEmpty := by
  have q := CmpV.eqD (n := 9) (k := 9) h (e := .lst []) rfl (Nat.le_refl _) (Nat.le_refl _)
  cases ds with
  | nil => exact q
  | cons d ds => exact q
theorem CmpV.neNil {ds : List D} (h : okD 9 (.lst ds) = true) : CmpV .NotEq (.lst ds) (.lst []) (!ds.isEmpty) := by
  have q := CmpV.neD (n := 9) (k := 9) h (e := .lst []) rfl (Nat.le_refl _) (Nat.le_refl _)
  cases ds with
  | nil => exact q
  | cons d ds => exact q
theorem CmpV.neRefl {d : D} {n : Nat} (h : okD n d = true) (hn : n ≤ 9) : CmpV .NotEq d d false := by
  have q := CmpV.neD h h hn hn
  rw [eqv_refl n d h] at q
  exact q

theorem CmpV.inD {ds : List D} {d : D} {n : Nat} (hds : ∀ e ∈ ds, okD 8 e = true) (hd : okD 8 d = true) : CmpV .In d (.lst ds) ((toPs ds).any fun y => PyData.eqv y (toP d)) := .mk fun prog w A E F s v1 v2 hA hu hl live r1 r2 => by
  obtain ⟨bs, rx⟩ := r1.reads 8 hd
  have hl9 : okD 9 (.lst ds) = true := by simpa [okD] using hds
  obtain ⟨as, ra⟩ := r2.reads 9 hl9
  rw [toP] at ra
  have l := okD_lay 9 _ hl9
  have ld := okD_lay 8 d hd
  rw [toP] at l
  simp only [PyData.canLay0, PyData.depth] at l
  have l2 := l.2
  have l3 := ld.2
  refine SeqAt.in_list_reads ra rx l.1 ld.1 ?_ ⟨kpRefl s, rfl⟩
  have := Nat.min_le_right (PyData.depthAll (toPs ds)) (toP d).depth
  omega
theorem CmpV.notInD {ds : List D} {d : D} {n : Nat} (hds : ∀ e ∈ ds, okD 8 e = true) (hd : okD 8 d = true) : CmpV .NotIn d (.lst ds) (!((toPs ds).any fun y => PyData.eqv y (toP d))) := .mk fun prog w A E F s v1 v2 hA hu hl live r1 r2 => by
  obtain ⟨bs, rx⟩ := r1.reads 8 hd
  have hl9 : okD 9 (.lst ds) = true := by simpa [okD] using hds
  obtain ⟨as, ra⟩ := r2.reads 9 hl9
  rw [toP] at ra
  have l := okD_lay 9 _ hl9
  have ld := okD_lay 8 d hd
  rw [toP] at l
  simp only [PyData.canLay0, PyData.depth] at l
  have l2 := l.2
  have l3 := ld.2
  refine SeqAt.notIn_list_reads ra rx l.1 ld.1 ?_ ⟨kpRefl s, rfl⟩
  have := Nat.min_le_right (PyData.depthAll (toPs ds)) (toP d).depth
  omega

theorem any_ints (xs : List Int) (i : Int) : ((toPs (xs.map .int)).any fun y => PyData.eqv y (toP (.int i))) = decide (i ∈ xs) := by
  induction xs with
  | nil => simp [toPs]
  | cons x xs ih =>
    have e : PyData.eqv (toP (.int x)) (toP (.int i)) = decide (i = x) := by
      simp only [toP, PyData.eqv]
      by_cases h : x = i
      · subst h; rw [decide_eq_true rfl, beq_self_eq_true]
      · rw [decide_eq_false fun q => h q.symm, beq_eq_false_iff_ne.mpr h]
    simp only [List.map_cons, toPs, List.any_cons, ih, List.mem_cons, e]
    rw [Bool.decide_or]
theorem CmpV.notInInts {xs : List Int} {i : Int} : CmpV .NotIn (.int i) (.lst (xs.map .int)) (!decide (i ∈ xs)) := by
  have q := CmpV.notInD (n := 0) (ds := xs.map D.int) (d := .int i) (by simp [okD]) (by simp [okD])
  rw [any_ints] at q; exact q
noncomputable abbrev dPair (p : Int × Int) : D := .tup [.int p.1, .int p.2]
theorem any_pairs (xs : List (Int × Int)) (i : Int × Int) : ((toPs (xs.map dPair)).any fun y => PyData.eqv y (toP (dPair i))) = decide (i ∈ xs) := by
  induction xs with
  | nil => simp [toPs]
  | cons x xs ih =>
    simp only [List.map_cons, toPs, List.any_cons, ih, List.mem_cons]
    have e : PyData.eqv (toP (dPair x)) (toP (dPair i)) = decide (i = x) := by
      obtain ⟨a, b⟩ := x
      obtain ⟨a', b'⟩ := i
      simp only [dPair, toP, toPs, PyData.eqv, PyData.eqvAll, Bool.and_true, Prod.mk.injEq]
      by_cases h1 : a = a'
      · subst h1
        by_cases h2 : b = b'
        · subst h2; simp only [beq_self_eq_true, Bool.and_self, and_self, decide_true]
        · rw [beq_eq_false_iff_ne.mpr h2, Bool.and_false, decide_eq_false fun q => h2 q.2.symm]
      · rw [beq_eq_false_iff_ne.mpr h1, Bool.false_and, decide_eq_false fun q => h1 q.1.symm]
    rw [e, Bool.decide_or]
theorem CmpV.inPairs {xs : List (Int × Int)} {i : Int × Int} : CmpV .In (dPair i) (.lst (xs.map dPair)) (decide (i ∈ xs)) := by
  have q := CmpV.inD (n := 0) (ds := xs.map dPair) (d := dPair i) (fun e he => by obtain ⟨p, _, rfl⟩ := List.mem_map.mp he; rfl) rfl
  rw [any_pairs] at q; exact q

end Mine

namespace Mine

/-- the cells of a function's own frame -/
structure OwnC (env : Env) (own : List Addr) : Prop where
  has : ∀ x, env.kindOf x = some .cell → ∃ k, env.cells.lookup x = some k ∧ k ∈ own
  inj : ∀ x y k, env.cells.lookup x = some k → env.cells.lookup y = some k → x = y
theorem OwnC.more {env : Env} {own own' : List Addr} (o : OwnC env own) (h : ∀ a ∈ own, a ∈ own') : OwnC env own' := ⟨fun x hx => let ⟨k, e, m⟩ := o.has x hx; ⟨k, e, h _ m⟩, o.inj⟩

/-- one cell that is the frame's own -/
noncomputable def OwnX (env : Env) (own : List Addr) (x : Str) : Prop := ∃ k, env.cells.lookup x = some k ∧ k ∈ own ∧ ∀ y, env.cells.lookup y = some k → y = x
theorem OwnC.at {env : Env} {own : List Addr} (o : OwnC env own) {x : Str} (h : env.kindOf x = some .cell) : OwnX env own x := let ⟨k, e, m⟩ := o.has x h; ⟨k, e, m, fun y e' => o.inj y x k e' e⟩

/-- a variable set: the old entry in its place, or a new one at the end -/
inductive Upd1 (x : Str) (d : D) : Vars → Vars → Prop
  | nil : Upd1 x d [] [(x, d)]
  | hit {e : D} {r : Vars} : (∀ p ∈ r, p.1 ≠ x) → Upd1 x d ((x, e) :: r) ((x, d) :: r)
  | skip {y : Str} {e : D} {r r' : Vars} : y ≠ x → Upd1 x d r r' → Upd1 x d ((y, e) :: r) ((y, e) :: r')
theorem Upd1.mem {x : Str} {d : D} : ∀ {r r' : Vars}, Upd1 x d r r' → ∀ y e, (y, e) ∈ r' → (y = x ∧ e = d) ∨ (y ≠ x ∧ (y, e) ∈ r)
  | _, _, .nil, y, e, h => by
    rcases List.mem_cons.mp h with q | q
    · cases q; exact .inl ⟨rfl, rfl⟩
    · cases q
  | _, _, .hit hr, y, e, h => by
    rcases List.mem_cons.mp h with q | q
    · cases q; exact .inl ⟨rfl, rfl⟩
    · exact .inr ⟨hr _ q, .tail _ q⟩
  | _, _, .skip hy hr, y, e, h => by
    rcases List.mem_cons.mp h with q | q
    · cases q; exact .inr ⟨hy, .head _⟩
    · exact (hr.mem y e q).imp id fun ⟨a, b⟩ => ⟨a, .tail _ b⟩

section
variable {c : Cx} {s₀ s : Shared} {g : Addr → Option Obj} {own F₀ : List Addr} {env : Env} {ρ ρ' : Vars} {mu : Option (Addr × M)} {A : Around} {E : Value → Shared → Prop} {x : Str} {d : D} {v : Value}

theorem MAt.sameBut {F : List Addr} {h h' : Heap} {a b : Addr} {md : M} (x : MAt F h a md) (hs : Heap.SameBut b h h') (hb : b ∈ F) (hab : a ≠ b) : MAt F h' a md := by
  have hl : Le F h h' := fun p o hp e => (hs.2 p (fun q => hp (q ▸ hb))).trans e
  cases md with
  | lst ds => obtain ⟨vs, n, e, r⟩ := x; exact ⟨vs, n, (hs.2 _ hab).trans e, r.le hl⟩
  | dct kvs => obtain ⟨hm, es, n, e, r⟩ := x; exact ⟨hm, es, n, (hs.2 _ hab).trans e, r⟩
theorem MAt.notCell {F : List Addr} {h : Heap} {a : Addr} {md : M} {v : Option Value} (x : MAt F h a md) (q : h.IsCell a v) : False := by
  obtain ⟨o, ho, hd⟩ := q
  cases md with
  | lst ds => obtain ⟨vs, n, e, _⟩ := x; rw [ho] at e; cases e; cases hd
  | dct kvs => obtain ⟨_, vs, n, e, _⟩ := x; rw [ho] at e; cases e; cases hd
theorem ns_notCell {h : Heap} {L : Addr} {m : Str → Option Value} {v : Option Value} (x : h.Ns L m) (q : h.IsCell L v) : False := by
  obtain ⟨o, ho, hd⟩ := q
  obtain ⟨o', es, ep, ho', hd', _⟩ := x
  rw [ho] at ho'; cases ho'; rw [hd] at hd'; cases hd'

theorem st_storeLh {Q : Unit → Shared → Prop} (ev : EnvOk env) (S : St c s₀ g own F₀ env ρ mu s) (U : Upd1 x d ρ ρ') (r : Rep (own ++ F₀) s.heap v d) (hk : env.kindOf x = some .local)
    (h : ∀ h', St c s₀ g own F₀ env ρ' mu { s with heap := h', toks := s.toks + 1 } → Q () { s with heap := h', toks := s.toks + 1 }) : wpAny (model c.prog c.w) A (storeName env x v) Q E s := by
  obtain ⟨m, hn, hv⟩ := S.vars
  refine wpAny_storeName_local hk hn (fun h' hn' hs => h _ ?_) (by rw [ev.kind]; rfl)
  have hL : env.locals ∈ own ++ F₀ := List.mem_append_left _ S.loc
  have hle : Le (own ++ F₀) s.heap h' := fun p o hp e => (hs.2 p (fun q => hp (q ▸ hL))).trans e
  refine ⟨S.same.trans ⟨h', _, rfl⟩, S.base, fun b o e => ?_, S.fresh, fun a ha => ?_, S.loc, fun a ha => ?_, ⟨_, hn', fun y e hy => ?_⟩, fun y k hy hk' => ?_, fun a md e => ?_⟩
  · exact (hs.2 b (fun q => by have := S.fresh _ S.loc; rw [← q, e] at this; cases this)).trans (S.keep b o e)
  · obtain ⟨h1, o, h2⟩ := S.live a ha
    exact ⟨h1, o, (hs.2 a (fun q => h1 (q ▸ S.loc))).trans h2⟩
  · by_cases q : a = env.locals
    · subst q
      obtain ⟨o, _, _, ho, _⟩ := hn'
      exact ⟨o, ho⟩
    · obtain ⟨o, ho⟩ := S.alive a ha
      exact ⟨o, (hs.2 a q).trans ho⟩
  · rcases U.mem y e hy with ⟨rfl, rfl⟩ | ⟨hne, hm⟩
    · exact ⟨v, r.le hle, .inl ⟨hk, by simp⟩⟩
    · obtain ⟨u, ru, q⟩ := hv y e hm
      refine ⟨u, ru.le hle, q.imp (fun ⟨a, b⟩ => ⟨a, by simp only [if_neg hne]; exact b⟩) fun ⟨a, k, b, hb, hc⟩ => ⟨a, k, b, hb, hc.sameBut hs fun q => ?_⟩⟩
      exact ns_notCell hn (q ▸ hc)
  · obtain ⟨u, hu⟩ := S.cells y k hy hk'
    exact ⟨u, hu.sameBut hs fun q => ns_notCell hn (q ▸ hu)⟩
  · obtain ⟨h1, h2, h3⟩ := S.mtd a md e
    exact ⟨h1, h2, h3.sameBut hs hL h2⟩

theorem st_storeL {Q : Unit → Shared → Prop} (ev : EnvOk env) (S : St c s₀ g own F₀ env ρ mu s) (U : Upd1 x d ρ ρ') (r : Rep (own ++ F₀) s.heap v d) (hk : env.kindOf x = some .local)
    (h : ∀ s', St c s₀ g own F₀ env ρ' mu s' → Q () s') : wpAny (model c.prog c.w) A (storeName env x v) Q E s := st_storeLh ev S U r hk fun _ S' => h _ S'

theorem st_storeC {Q : Unit → Shared → Prop} (ev : EnvOk env) (oc : OwnX env own x) (S : St c s₀ g own F₀ env ρ mu s) (U : Upd1 x d ρ ρ') (r : Rep (own ++ F₀) s.heap v d) (hk : env.kindOf x = some .cell)
    (h : ∀ s', St c s₀ g own F₀ env ρ' mu s' → Q () s') : wpAny (model c.prog c.w) A (storeName env x v) Q E s := by
  obtain ⟨m, hn, hv⟩ := S.vars
  obtain ⟨k, hck, hko, hinj⟩ := oc
  obtain ⟨v₀, hv₀⟩ := S.cells x k hk hck
  refine wpAny_storeName_cell ev.kind hk hck hv₀ fun h' hc' hs => h _ ?_
  have hL : k ∈ own ++ F₀ := List.mem_append_left _ hko
  have hle : Le (own ++ F₀) s.heap h' := fun p o hp e => (hs.2 p (fun q => hp (q ▸ hL))).trans e
  have hkL : env.locals ≠ k := fun q => ns_notCell hn (q ▸ hv₀)
  refine ⟨S.same.trans ⟨h', _, rfl⟩, S.base, fun b o e => ?_, S.fresh, fun a ha => ?_, S.loc, fun a ha => ?_, ⟨m, hn.sameBut hs hkL, fun y e hy => ?_⟩, fun y k' hy hk' => ?_, fun a md e => ?_⟩
  · exact (hs.2 b (fun q => by have := S.fresh _ hko; rw [← q, e] at this; cases this)).trans (S.keep b o e)
  · obtain ⟨h1, o, h2⟩ := S.live a ha
    exact ⟨h1, o, (hs.2 a (fun q => h1 (q ▸ hko))).trans h2⟩
  · by_cases q : a = k
    · subst q
      obtain ⟨o, ho, _⟩ := hc'
      exact ⟨o, ho⟩
    · obtain ⟨o, ho⟩ := S.alive a ha
      exact ⟨o, (hs.2 a q).trans ho⟩
  · rcases U.mem y e hy with ⟨rfl, rfl⟩ | ⟨hne, hm⟩
    · exact ⟨v, r.le hle, .inr ⟨hk, k, hck, hL, hc'⟩⟩
    · obtain ⟨u, ru, q⟩ := hv y e hm
      refine ⟨u, ru.le hle, q.imp id fun ⟨a, k', b, hb, hc⟩ => ⟨a, k', b, hb, hc.sameBut hs fun q => ?_⟩⟩
      subst q
      exact hne (hinj y b)
  · by_cases q : k' = k
    · subst q; exact ⟨_, hc'⟩
    · obtain ⟨u, hu⟩ := S.cells y k' hy hk'
      exact ⟨u, hu.sameBut hs q⟩
  · obtain ⟨h1, h2, h3⟩ := S.mtd a md e
    exact ⟨h1, h2, h3.sameBut hs hL fun q => h3.notCell (q ▸ hv₀)⟩

theorem st_store {sc : Scope} {Q : Unit → Shared → Prop} (hsc : env.scope = sc) (ev : EnvOk env) (S : St c s₀ g own F₀ env ρ mu s) (U : Upd1 x d ρ ρ') (r : Rep (own ++ F₀) s.heap v d)
    (hk : sc.names.lookup x = some .local ∨ (sc.names.lookup x = some .cell ∧ OwnX env own x))
    (h : ∀ s', St c s₀ g own F₀ env ρ' mu s' → Q () s') : wpAny (model c.prog c.w) A (storeName env x v) Q E s := by
  rcases hk with hk | ⟨hk, oc⟩
  · exact st_storeL ev S U r (by unfold Env.kindOf; rw [hsc]; exact hk) h
  · exact st_storeC ev oc S U r (by unfold Env.kindOf; rw [hsc]; exact hk) h
end

/-- an assignment to a target; o: the cells that it may store into -/
structure Asg (c : Cx) (sc : Scope) (o : Str → Bool) (mu : Option (Addr × M)) (target : Expr) (d : D) (ρ ρ' : Vars) : Prop where
  mk ::
  run : 
  ∀ (A : Around) (E : Value → Shared → Prop) (env : Env) (s₀ : Shared) (g : Addr → Option Obj) (own F₀ : List Addr) (s : Shared) (v : Value), env.scope = sc → EnvOk env → (∀ x, o x = true → sc.names.lookup x = some .cell → OwnX env own x) → A.handled = none → St c s₀ g own F₀ env ρ mu s →
    Rep (own ++ F₀) s.heap v d → wpAny (model c.prog c.w) A (assign target env v) (fun _ s' => St c s₀ g own F₀ env ρ' mu s') E s
structure AsgL (c : Cx) (sc : Scope) (o : Str → Bool) (mu : Option (Addr × M)) (ts : List Expr) (ds : List D) (ρ ρ' : Vars) : Prop where
  mk ::
  run : 
  ∀ (A : Around) (E : Value → Shared → Prop) (env : Env) (s₀ : Shared) (g : Addr → Option Obj) (own F₀ : List Addr) (s : Shared) (vs : List Value), env.scope = sc → EnvOk env → (∀ x, o x = true → sc.names.lookup x = some .cell → OwnX env own x) → A.handled = none → St c s₀ g own F₀ env ρ mu s →
    RepL (own ++ F₀) s.heap vs ds → wpAny (model c.prog c.w) A (assignInOrder ((assignEach ts env).map (·.2)) vs) (fun _ s' => St c s₀ g own F₀ env ρ' mu s') E s

section
variable {c : Cx} {sc : Scope} {o : Str → Bool} {mu : Option (Addr × M)} {ρ ρ' ρ₁ : Vars}

theorem Asg.name {x : Str} {pos : Pos} {d : D} (U : Upd1 x d ρ ρ') (hk : sc.names.lookup x = some .local ∨ (sc.names.lookup x = some .cell ∧ o x = true)) : Asg c sc o mu (.Name x pos) d ρ ρ' := .mk fun A E env s₀ g own F₀ s v hsc ev oc hh S r =>
  wpAny_assign_Name (st_store hsc ev S U r (hk.imp id fun ⟨a, b⟩ => ⟨a, oc x b a⟩) fun _ S' => S')

theorem AsgL.nil : AsgL c sc o mu [] [] ρ ρ := .mk fun A E env s₀ g own F₀ s vs hsc ev oc hh S r => by
  cases r; exact wpAny_pure S
theorem AsgL.cons {x : Str} {pos : Pos} {ts : List Expr} {d : D} {ds : List D} (U : Upd1 x d ρ ρ₁) (hk : sc.names.lookup x = some .local ∨ (sc.names.lookup x = some .cell ∧ o x = true)) (h : AsgL c sc o mu ts ds ρ₁ ρ') :
    AsgL c sc o mu (.Name x pos :: ts) (d :: ds) ρ ρ' := .mk fun A E env s₀ g own F₀ s vs hsc ev oc hh S r => by
  cases r with
  | cons r1 r2 =>
    rename_i v vs
    show wpAny _ _ (do holding vs (assign (.Name x pos) env v); assignInOrder ((assignEach ts env).map (·.2)) vs) _ _ _
    refine wpAny_bind (wpAny_holding (wpAny_assign_Name ?_))
    -- the store keeps all that is off own
    have S' := S.to (fun b => if b ∈ own then none else s.heap.get? b) (fun b o e => by
      have hb : b ∉ own := fun m => by rw [S.fresh b m] at e; cases e
      simp only [if_neg hb]; exact S.keep b o e) (fun b o e => by
      by_cases hb : b ∈ own
      · simp only [if_pos hb] at e; cases e
      · simp only [if_neg hb] at e; exact e) (fun a m => by simp only [if_pos m])
    refine st_store hsc ev S' U r1 (hk.imp id fun ⟨a, b⟩ => ⟨a, oc x b a⟩) fun s' S1 => ?_
    refine h.run A E env s₀ g own F₀ s' vs hsc ev oc hh ?_ (r2.le fun b o hb e => S1.keep b o ?_)
    · refine S1.back (fun b o e => ?_) S.base S.fresh
      have hb : b ∉ own := fun m => by rw [S.fresh b m] at e; cases e
      simp only [if_neg hb]; exact S.keep b o e
    · have hb' : b ∉ own := fun m => hb (List.mem_append_left _ m)
      simp only [if_neg hb']; exact e

theorem assignEach_len (env : Env) : ∀ (ts : List Expr), (∀ t ∈ ts, ∃ x p, t = .Name x p) → (assignEach ts env).length = ts.length ∧ (assignEach ts env).findIdx? (·.1) = none
  | [], _ => ⟨rfl, rfl⟩
  | t :: ts, h => by
    obtain ⟨x, p, rfl⟩ := h _ (.head _)
    have ⟨a, b⟩ := assignEach_len env ts fun t m => h t (.tail _ m)
    have e : assignEach (.Name x p :: ts) env = (false, assign (.Name x p) env) :: assignEach ts env := rfl
    rw [e]
    refine ⟨by simp [a], ?_⟩
    rw [List.findIdx?_cons, b]; rfl
theorem Asg.tuple {ts : List Expr} {k : Nat} {pos : Pos} {ds : List D} (h : AsgL c sc o mu ts ds ρ ρ') (hn : ∀ t ∈ ts, ∃ x p, t = Expr.Name x p) (hl : ts.length = ds.length := by rfl) : Asg c sc o mu (.Tuple ts k pos) (.tup ds) ρ ρ' := .mk fun A E env s₀ g own F₀ s v hsc ev oc hh S r => by
  cases r with
  | tup ha ho q =>
    rename_i a vs n
    have L := assignEach_len env ts hn
    refine wpAny_assign_Tuple hh (t := a) (items := vs.toArray) ⟨_, ho, rfl, n, rfl⟩ ?_ L.2 fun h' hx => ?_
    · rw [L.1, hl]; simp [q.length]
    · have k : Keeps s { s with heap := h' } := ⟨h', s.toks, rfl, fun b o e => hx b o (Nat.ne_of_lt (Heap.lt_size e)) e⟩
      have e : vs.toArray.toList = vs := by simp
      rw [e]
      exact h.run A E env s₀ g own F₀ _ vs hsc ev oc hh (S.more k) (q.keeps (kpLe k))
end

-- statements, the rest behind them
section
variable {c : Cx} {n : Nat} {sc : Scope} {s₀ s : Shared} {g : Addr → Option Obj} {own F₀ : List Addr} {env : Env} {ρ ρ' : Vars} {mu mu' : Option (Addr × M)} {A : Around} {E : Value → Shared → Prop} {Q : Flow → Shared → Prop} {rest : List Stmt}

/-- what a frame's steps share -/
structure Fm (c : Cx) (n : Nat) (sc : Scope) (env : Env) (own : List Addr) (A : Around) : Prop where
  ok : c.Ok
  hsc : env.scope = sc
  ev : EnvOk env
  oc : OwnC env own
  room : Room A n
theorem Fm.more {own' : List Addr} (f : Fm c n sc env own A) (h : ∀ a ∈ own, a ∈ own') : Fm c n sc env own' A := { f with oc := f.oc.more h }

theorem ex_nil (h : Q .next s) : Ex c A env [] Q E s := ⟨wpAny_execs_nil h⟩
theorem ex_step {st : Stmt} (h : wpAny (model c.prog c.w) A (exec st env) (fun f s' => f = .next ∧ St c s₀ g own F₀ env ρ' mu' s') E s)
    (k : ∀ s', St c s₀ g own F₀ env ρ' mu' s' → Ex c A env rest Q E s') : Ex c A env (st :: rest) Q E s :=
  ⟨wpAny_execs_cons (wpAny_mono h (fun f s' q => by obtain ⟨rfl, S⟩ := q; exact (k s' S).go) fun _ _ e => e)⟩

theorem ex_assign {x : Str} {p pos : Pos} {value : Expr} {d : D} (f : Fm c n sc env own A) (S : St c s₀ g own F₀ env ρ mu s) (hev : Ev c n sc ρ mu value d) (U : Upd1 x d ρ ρ')
    (hk : sc.names.lookup x = some .local ∨ sc.names.lookup x = some .cell) (hsw : swapsWith value (some (.Name x p)) pos.line env = pure false)
    (k : ∀ s', St c s₀ g own F₀ env ρ' mu s' → Ex c A env rest Q E s') : Ex c A env (.Assign [.Name x p] value pos :: rest) Q E s := by
  refine ex_step (wpAny_Assign_Name (wpAny_mono (hev.run f.ok A E env s₀ g own F₀ s f.hsc f.ev f.room S) (fun v s1 q1 => ?_) fun _ _ e => e) hsw) k
  exact st_store f.hsc f.ev (S.more q1.1) U q1.2 (hk.imp id fun h => ⟨h, f.oc.at (by unfold Env.kindOf; rw [f.hsc]; exact h)⟩) fun s' S' => ⟨rfl, S'⟩

theorem ex_aug {x : Str} {p pos : Pos} {op : Operator} {value : Expr} {d0 d1 d : D} (f : Fm c n sc env own A) (S : St c s₀ g own F₀ env ρ mu s) (h0 : (x, d0) ∈ ρ) (hev : Ev c n sc ρ mu value d1) (h : InpV op d0 d1 d) (U : Upd1 x d ρ ρ')
    (hk : sc.names.lookup x = some .local ∨ sc.names.lookup x = some .cell)
    (k : ∀ s', St c s₀ g own F₀ env ρ' mu s' → Ex c A env rest Q E s') : Ex c A env (.AugAssign (.Name x p) op value pos :: rest) Q E s := by
  refine ex_step (wpAny_AugAssign_Name ?_) k
  have h0'' : wpAny (model c.prog c.w) A (loadName env x) (fun v s' => Keeps s s' ∧ Rep (own ++ F₀) s'.heap v d0) E s := by
    obtain ⟨m, hn, hv⟩ := S.vars
    obtain ⟨v, r, q⟩ := hv x d0 h0
    rcases q with ⟨hk, hm⟩ | ⟨hk, cc, hc, _, hcell⟩
    · exact wpAny_loadName_local f.ev.kind hk hn hm ⟨kpRefl s, r⟩
    · exact wpAny_loadName_cell f.ev.kind hk hc hcell ⟨kpRefl s, r⟩
  refine wpAny_mono h0'' (fun v0 s1 q1 => ?_) fun _ _ e => e
  have S1 := S.more q1.1
  refine wpAny_mono (hev.run f.ok A E env s₀ g own F₀ s1 f.hsc f.ev f.room S1) (fun v1 s2 q2 => ?_) fun _ _ e => e
  have S2 := S1.more q2.1
  refine wpAny_mono (h.run c.prog c.w A E (own ++ F₀) s2 v0 v1 f.room.handled (S2.nolimit f.ok) S2.lives (q1.2.keeps (kpLe q2.1)) q2.2) (fun v s3 q3 => ?_) fun _ _ e => e
  exact st_store f.hsc f.ev (S2.more q3.1) U q3.2 (hk.imp id fun h => ⟨h, f.oc.at (by unfold Env.kindOf; rw [f.hsc]; exact h)⟩) fun s' S' => ⟨rfl, S'⟩

/-- an if whose ways come to one state, or leave -/
theorem ex_if {test : Expr} {body orelse : List Stmt} {pos : Pos} {b : Bool} (f : Fm c n sc env own A) (S : St c s₀ g own F₀ env ρ mu s) (ht : Tr c n sc ρ mu test b)
    (h1 : b = true → ∀ s', St c s₀ g own F₀ env ρ mu s' → Ex c A env body (fun fl s'' => match fl with | .next => Ex c A env rest Q E s'' | fl => Q fl s'') E s')
    (h2 : b = false → ∀ s', St c s₀ g own F₀ env ρ mu s' → Ex c A env orelse (fun fl s'' => match fl with | .next => Ex c A env rest Q E s'' | fl => Q fl s'') E s') :
    Ex c A env (.If test body orelse pos :: rest) Q E s := by
  refine ⟨wpAny_execs_cons (wpAny_If (wpAny_mono (ht.run f.ok A E env s₀ g own F₀ s f.hsc f.ev f.room S) (fun r s1 q1 => ?_) fun _ _ e => e))⟩
  obtain ⟨k1, rfl⟩ := q1
  cases r with
  | true => exact wpAny_mono (h1 rfl s1 (S.more k1)).go (fun fl s2 q => by cases fl <;> first | exact q.go | exact q) fun _ _ e => e
  | false => exact wpAny_mono (h2 rfl s1 (S.more k1)).go (fun fl s2 q => by cases fl <;> first | exact q.go | exact q) fun _ _ e => e
theorem ex_ifj {test : Expr} {body orelse : List Stmt} {pos : Pos} {b : Bool} (f : Fm c n sc env own A) (S : St c s₀ g own F₀ env ρ mu s) (ht : Tr c n sc ρ mu test b)
    (h1 : b = true → ∀ s', St c s₀ g own F₀ env ρ mu s' → Ex c A env body (fun fl s'' => fl = .next ∧ St c s₀ g own F₀ env ρ' mu' s'') E s')
    (h2 : b = false → ∀ s', St c s₀ g own F₀ env ρ mu s' → Ex c A env orelse (fun fl s'' => fl = .next ∧ St c s₀ g own F₀ env ρ' mu' s'') E s')
    (k : ∀ s', St c s₀ g own F₀ env ρ' mu' s' → Ex c A env rest Q E s') :
    Ex c A env (.If test body orelse pos :: rest) Q E s := by
  refine ex_if f S ht (fun hb s' S' => (h1 hb s' S').mono fun fl s'' q => ?_) (fun hb s' S' => (h2 hb s' S').mono fun fl s'' q => ?_)
  · obtain ⟨rfl, S2⟩ := q; exact k s'' S2
  · obtain ⟨rfl, S2⟩ := q; exact k s'' S2
theorem ex_ret {e : Expr} {pos : Pos} {d : D} (f : Fm c n sc env own A) (S : St c s₀ g own F₀ env ρ mu s) (hev : Ev c n sc ρ mu e d)
    (k : ∀ v s', St c s₀ g own F₀ env ρ mu s' → Rep (own ++ F₀) s'.heap v d → Q (.ret v) s') : Ex c A env (.Return (some e) pos :: rest) Q E s :=
  ⟨wpAny_execs_cons (wpAny_Return_some (wpAny_mono (hev.run f.ok A E env s₀ g own F₀ s f.hsc f.ev f.room S) (fun v s1 q1 => k v s1 (S.more q1.1) q1.2) fun _ _ e => e))⟩
end

end Mine

namespace Mine

theorem bind_keepL (kindOf : Str → Option NameKind) : ∀ (binds : List (Str × Value)) (m : Str → Option Value) (x : Str), (∀ p ∈ binds, p.1 ≠ x) → bindL kindOf binds m x = m x
  | [], _, _, _ => rfl
  | (n, v) :: r, m, x, h => by
    unfold bindL
    rw [bind_keepL kindOf r _ x fun p hp => h p (.tail _ hp)]
    have hx : ¬ x = n := fun e => h (n, v) (.head _) e.symm
    split
    · simp [hx]
    · rfl
theorem bind_keepC (kindOf : Str → Option NameKind) : ∀ (binds : List (Str × Value)) (m : Str → Option Value) (x : Str), (∀ p ∈ binds, p.1 ≠ x) → bindC kindOf binds m x = m x
  | [], _, _, _ => rfl
  | (n, v) :: r, m, x, h => by
    unfold bindC
    rw [bind_keepC kindOf r _ x fun p hp => h p (.tail _ hp)]
    have hx : ¬ x = n := fun e => h (n, v) (.head _) e.symm
    split
    · rfl
    · simp [hx]
theorem bind_atL (kindOf : Str → Option NameKind) : ∀ (binds : List (Str × Value)) (m : Str → Option Value) (x : Str) (v : Value), (binds.map (·.1)).Nodup → (x, v) ∈ binds → kindOf x = some .local → bindL kindOf binds m x = some v
  | (n, u) :: r, m, x, v, hn, h, hk => by
    rw [List.map_cons, List.nodup_cons] at hn
    unfold bindL
    rcases List.mem_cons.mp h with e | h
    · cases e
      rw [bind_keepL kindOf r _ n fun p hp q => hn.1 (q ▸ List.mem_map_of_mem (f := (·.1)) hp), if_pos hk]; simp
    · exact bind_atL kindOf r _ x v hn.2 h hk
theorem bind_atC (kindOf : Str → Option NameKind) : ∀ (binds : List (Str × Value)) (m : Str → Option Value) (x : Str) (v : Value), (binds.map (·.1)).Nodup → (x, v) ∈ binds → kindOf x = some .cell → bindC kindOf binds m x = some v
  | (n, u) :: r, m, x, v, hn, h, hk => by
    rw [List.map_cons, List.nodup_cons] at hn
    unfold bindC
    rcases List.mem_cons.mp h with e | h
    · cases e
      rw [bind_keepC kindOf r _ n fun p hp q => hn.1 (q ▸ List.mem_map_of_mem (f := (·.1)) hp), if_neg (by rw [hk]; decide)]; simp
    · exact bind_atC kindOf r _ x v hn.2 h hk

structure FnOK (c : Cx) (n : Nat) (f : Addr) (ds : List D) (r : D) : Prop where
  mk ::
  run : c.Ok → ∀ (A : Around) (F₀ : List Addr) (s : Shared) (vs : List Value), Room A n → (∀ b o, c.b0.get? b = some o → s.heap.get? b = some o) → Live F₀ s.heap → RepL F₀ s.heap vs ds →
  codeAny (model c.prog c.w) A (.call (.ref f) ⟨vs, []⟩) (fun res s' => ∃ v, res = .ok (.ret v) ∧ Keeps s s' ∧ Rep F₀ s'.heap v r) s

noncomputable def FnPost (c : Cx) (s₀ : Shared) (own F₀ : List Addr) (env : Env) (r : D) (fl : Flow) (s' : Shared) : Prop :=
  ∃ v, fl = .ret v ∧ St c s₀ s₀.heap.get? own F₀ env [] none s' ∧ Rep (own ++ F₀) s'.heap v r

theorem mem_zip_rep {F : List Addr} {h : Heap} : ∀ {xs : List Str} {vs : List Value} {ds : List D}, RepL F h vs ds → ∀ x d, (x, d) ∈ xs.zip ds → ∃ v, (x, v) ∈ xs.zip vs ∧ Rep F h v d
  | [], _, _, _, _, _, hm => by simp at hm
  | y :: xs, _, _, .nil, _, _, hm => by simp at hm
  | y :: xs, _, _, .cons (v := v) (d := d') a b, x, d, hm => by
    rw [List.zip_cons_cons] at hm
    rcases List.mem_cons.mp hm with e | hm
    · cases e; exact ⟨v, by rw [List.zip_cons_cons]; exact .head _, a⟩
    · obtain ⟨u, h1, h2⟩ := mem_zip_rep b x d hm
      exact ⟨u, by rw [List.zip_cons_cons]; exact .tail _ h1, h2⟩

theorem fst_zip : ∀ (xs : List Str) (vs : List Value), xs.length = vs.length → (xs.zip vs).map (·.1) = xs
  | [], [], _ => rfl
  | x :: xs, v :: vs, h => by rw [List.zip_cons_cons, List.map_cons, fst_zip xs vs (by simpa using h)]

theorem fn_enterG {c : Cx} {n : Nat} {f : Addr} {oc dV kV doc pm cdv ct : Value} {od an : Option Addr} {osl : Array (Option Value)} {name qual : Str} {params : Arguments} {body : List Stmt} {scope : Scope} {ds : List D} {A : Around} {F₀ : List Addr} {s : Shared} {vs : List Value} {R : Result → Shared → Prop}
    (xs : List Str) (ho : c.K.lookup f = some ⟨oc, od, .func (fnOf name qual params body scope dV kV doc pm an cdv ct), osl⟩) (hcd : codeIn c.K cdv qual = true)
    (hbind : ∀ vs : List Value, vs.length = xs.length → bindArgs (fnOf name qual params body scope dV kV doc pm an cdv ct) ⟨vs, []⟩ = pure (xs.zip vs))
    (hkind : (xs.all fun y => scope.names.lookup y == some .local || scope.names.lookup y == some .cell) = true) (hnd : xs.Nodup) (hlen : ds.length = xs.length)
    (ok : c.Ok) (room : Room A (n + 1)) (hb : ∀ b o, c.b0.get? b = some o → s.heap.get? b = some o) (live : Live F₀ s.heap) (rep : RepL F₀ s.heap vs ds)
    (h : ∀ (env : Env) (own : List Addr) (s₁ : Shared), Fm c n scope env own (A.deeper env) → env.frame = some env.locals → St c s s.heap.get? own F₀ env (xs.zip ds) none s₁ →
      Ex c (A.deeper env) env body (fun fl s' => R (.ok (.ret (match fl with | .ret v => v | _ => .none))) s') (fun e s' => wpAny (model c.prog c.w) (A.deeper env) (leaving env e) (fun _ s'' => R (.error e) s'') (fun e' s'' => R (.error e') s'') s') s₁)
    (hco : scope.isCoroutine = false := by rfl) (hgen : scope.isGenerator = false := by rfl) (hk : scope.kind = .function := by rfl) : codeAny (model c.prog c.w) A (.call (.ref f) ⟨vs, []⟩) R s := by
  have X : c.K.In s.heap := fun a o e => hb _ _ (ok.X a o e)
  have hvl : vs.length = xs.length := rep.length.trans hlen
  have hz := fst_zip xs vs hvl.symm
  have hk1 : ∀ y ∈ xs, scope.names.lookup y = some .local ∨ scope.names.lookup y = some .cell := fun y hy => by
    have := List.all_eq_true.mp hkind y hy
    simpa using this
  refine codeAny_call_cells (fd := fnOf name qual params body scope dV kV doc pm an cdv ct) (body := body) (vals := vs) (binds := xs.zip vs) room.dl (X _ _ ho) rfl (ok.T.nolimit.keeps hb) (codeRec_of X hcd) rfl (hbind vs hvl) rfl
    (fun y hy => ?_) (fun s₁ I => ?_) hco hgen hk
  · have hy' : y.1 ∈ xs := by rw [← hz]; exact List.mem_map_of_mem hy
    exact (hk1 y.1 hy').imp id fun e => ⟨e, cellsFrom_some _ _ _ (.inl e)⟩
  have hko : ∀ x, (callEnvC (fnOf name qual params body scope dV kV doc pm an cdv ct) s.heap.objs.size f).kindOf x = scope.names.lookup x := fun _ => rfl
  have hcells : (callEnvC (fnOf name qual params body scope dV kV doc pm an cdv ct) s.heap.objs.size f).cells = cellsFrom (s.heap.objs.size + 1) scope.names [] := rfl
  have hloc : (callEnvC (fnOf name qual params body scope dV kV doc pm an cdv ct) s.heap.objs.size f).locals = s.heap.objs.size := rfl
  have hgl : (callEnvC (fnOf name qual params body scope dV kV doc pm an cdv ct) s.heap.objs.size f).globals = mainGlobals := rfl
  have hfrm : (callEnvC (fnOf name qual params body scope dV kV doc pm an cdv ct) s.heap.objs.size f).frame = some s.heap.objs.size := rfl
  have hbl : (callEnvC (fnOf name qual params body scope dV kV doc pm an cdv ct) s.heap.objs.size f).builtins = builtinsNs := rfl
  have hsc : (callEnvC (fnOf name qual params body scope dV kV doc pm an cdv ct) s.heap.objs.size f).scope = scope := rfl
  generalize callEnvC (fnOf name qual params body scope dV kV doc pm an cdv ct) s.heap.objs.size f = env at I hko hcells hloc hgl hbl hsc hfrm ⊢
  have newc : ∀ k, k ∈ env.cells.filterMap (fun p => env.cells.lookup p.1) → (∃ x, env.cells.lookup x = some k) ∧ s.heap.get? k = none := fun k hk' => by
    obtain ⟨p, hp, e⟩ := List.mem_filterMap.mp hk'
    have := I.above _ _ (mem_of_lookup e)
    rw [hloc] at this
    refine ⟨⟨_, e⟩, ?_⟩
    cases e : s.heap.get? k with
    | none => rfl
    | some o => exact absurd (Heap.lt_size e) (Nat.not_lt.mpr (Nat.le_of_lt this))
  have ev : EnvOk env := ⟨by rw [hsc]; exact hk, hgl, hbl, fun x hx => by
    rw [hko] at hx
    rw [hcells]
    exact Option.isSome_iff_exists.mp (cellsFrom_some (x := x) scope.names (s.heap.objs.size + 1) [] (.inl hx))⟩
  have fresh : ∀ a ∈ env.locals :: env.cells.filterMap (fun p => env.cells.lookup p.1), s.heap.get? a = none := fun a ha => by
    rcases List.mem_cons.mp ha with rfl | ha
    · rw [hloc]
      cases e : s.heap.get? s.heap.objs.size with
      | none => rfl
      | some o => exact absurd (Heap.lt_size e) (Nat.lt_irrefl _)
    · exact (newc a ha).2
  have off : ∀ a o, s.heap.get? a = some o → a ∈ (env.locals :: env.cells.filterMap (fun p => env.cells.lookup p.1)) ++ F₀ → a ∈ F₀ := fun a o e m => by
    rcases List.mem_append.mp m with m | m
    · rw [fresh a m] at e; cases e
    · exact m
  have oc : OwnC env (env.locals :: env.cells.filterMap (fun p => env.cells.lookup p.1)) := ⟨fun x hx => by
    rw [hko] at hx
    obtain ⟨k, e⟩ := Option.isSome_iff_exists.mp (cellsFrom_some (x := x) scope.names (s.heap.objs.size + 1) [] (.inl hx))
    exact ⟨k, by rw [hcells]; exact e, List.mem_cons_of_mem _ (List.mem_filterMap.mpr ⟨(x, k), mem_of_lookup (by rw [hcells]; exact e), by rw [hcells]; exact e⟩)⟩, fun x y k h1 h2 => name_of_addr I.apart (mem_of_lookup h1) (mem_of_lookup h2)⟩
  have hnd' : ((xs.zip vs).map (·.1)).Nodup := by rw [hz]; exact hnd
  have S : St c s s.heap.get? (env.locals :: env.cells.filterMap (fun p => env.cells.lookup p.1)) F₀ env (xs.zip ds) none s₁ := by
    refine ⟨?_, hb, I.toInCall.keep, fresh, fun a ha => ?_, .head _, fun a ha => ?_, ⟨_, I.toInCall.ns, fun x d hm => ?_⟩, fun x k _ e => ⟨_, I.cell x k e⟩, fun _ _ e => nomatch e⟩
    · exact I.toInCall.same
    · obtain ⟨o, e⟩ := live a ha
      exact ⟨fun m => (by rw [fresh a m] at e; cases e), o, I.toInCall.keep _ _ e⟩
    · rcases List.mem_cons.mp ha with rfl | ha
      · obtain ⟨o, _, _, e, _⟩ := I.toInCall.ns
        exact ⟨o, e⟩
      · obtain ⟨⟨x, e⟩, _⟩ := newc a ha
        obtain ⟨o, e, _⟩ := I.cell x a e
        exact ⟨o, e⟩
    · obtain ⟨v, hv, rv⟩ := mem_zip_rep rep x d hm
      have rv' : Rep ((env.locals :: env.cells.filterMap (fun p => env.cells.lookup p.1)) ++ F₀) s₁.heap v d := rv.move (Le.of_all I.toInCall.keep) off
      have hx : x ∈ xs := by rw [← hz]; exact List.mem_map_of_mem (f := (·.1)) hv
      refine ⟨v, rv', ?_⟩
      rcases hk1 x hx with e | e
      · exact .inl ⟨(hko x).trans e, bind_atL _ _ _ x v hnd' hv ((hko x).trans e)⟩
      · obtain ⟨k, e1, e2⟩ := oc.has x ((hko x).trans e)
        refine .inr ⟨(hko x).trans e, k, e1, List.mem_append_left _ e2, ?_⟩
        have := I.cell x k e1
        rwa [bind_atC _ _ _ x v hnd' hv ((hko x).trans e)] at this
  exact (h env _ s₁ ⟨ok, hsc, ev, oc, room.deeper env⟩ (hfrm.trans (congrArg some hloc.symm)) S).go

theorem fn_enter {c : Cx} {n : Nat} {f : Addr} {oc dV kV doc pm cdv ct : Value} {od an : Option Addr} {osl : Array (Option Value)} {name qual : Str} {params : Arguments} {body : List Stmt} {scope : Scope} {ds : List D} {r : D}
    (xs : List Str) (ho : c.K.lookup f = some ⟨oc, od, .func (fnOf name qual params body scope dV kV doc pm an cdv ct), osl⟩) (hcd : codeIn c.K cdv qual = true)
    (hbind : ∀ vs : List Value, vs.length = xs.length → bindArgs (fnOf name qual params body scope dV kV doc pm an cdv ct) ⟨vs, []⟩ = pure (xs.zip vs))
    (hkind : (xs.all fun y => scope.names.lookup y == some .local || scope.names.lookup y == some .cell) = true) (hnd : xs.Nodup) (hlen : ds.length = xs.length)
    (h : ∀ (A : Around) (E : Value → Shared → Prop) (env : Env) (own F₀ : List Addr) (s₀ s : Shared), Fm c n scope env own A → St c s₀ s₀.heap.get? own F₀ env (xs.zip ds) none s → Ex c A env body (FnPost c s₀ own F₀ env r) E s)
    (hco : scope.isCoroutine = false := by rfl) (hgen : scope.isGenerator = false := by rfl) (hk : scope.kind = .function := by rfl) : FnOK c (n + 1) f ds r := .mk fun ok A F₀ s vs room hb live rep =>
  fn_enterG xs ho hcd hbind hkind hnd hlen ok room hb live rep (fun env own s₁ f _ S => (h (A.deeper env) _ env own F₀ s s₁ f S).mono fun fl s' q => by
    obtain ⟨v, rfl, S', rv⟩ := q
    exact ⟨v, rfl, kpOf S'.same S'.keep, rv.less fun a m => List.mem_append_right _ m⟩) hco hgen hk

end Mine

namespace Mine

/-- a call of a built-in -/
structure CallV (b : Value) (ds : List D) (d : D) : Prop where
  mk ::
  run : ∀ (prog : Program) (w : World) (A : Around) (E : Value → Shared → Prop) (F : List Addr) (s : Shared) (vs : List Value), A.handled = none → A.units + 64 < cLine → s.heap.NoLimit → Live F s.heap →
  RepL F s.heap vs ds → wpAny (model prog w) A (PySem.call b vs) (fun v s' => Keeps s s' ∧ Rep F s'.heap v d) E s

section
variable {c : Cx} {n m : Nat} {sc : Scope} {ρ : Vars} {mu : Option (Addr × M)}

theorem any_back (pos : Pos) (es : List Expr) (env : Env) (he : ∀ e ∈ es, ∀ x p, e ≠ Expr.Starred x p) : (backTo pos (starEach es env)).any (·.1) = false := by
  induction es with
  | nil => rfl
  | cons e es ih =>
    have h : starEach (e :: es) env = (false, eval e env) :: starEach es env := by
      cases e <;> first | rfl | exact absurd rfl (he _ (.head _) _ _)
    rw [h]
    show (false || (backTo pos (starEach es env)).any (·.1)) = false
    rw [ih fun e m => he e (.tail _ m)]; rfl

/-- a call of a def of the text's -/
theorem Ev.call {f : Str} {p pos : Pos} {e : Expr} {es : List Expr} {a : Addr} {ds : List D} {r : D} {fd : FuncData} {oc : Value} {od : Option Addr} {osl : Array (Option Value)}
    (hf : Ev c n sc ρ mu (.Name f p) (.ptr (.ref a))) (ho : c.K.lookup a = some ⟨oc, od, .func fd, osl⟩) (ha : EvL c n sc ρ mu (e :: es) ds) (h : FnOK c m a ds r) (hm : m ≤ n)
    (he : ∀ env, starEach (e :: es) env = (false, eval e env) :: starEach es env := by intro _; rfl) : Ev c n sc ρ mu (.Call (.Name f p) (e :: es) [] pos) r := .mk fun ok A E env s₀ g own F₀ s hsc ev room S => by
  refine Call_Name rfl (wpAny_mono (hf.run ok A E env s₀ g own F₀ s hsc ev room S) (fun v s1 q1 => ?_) fun _ _ e => e)
  obtain ⟨k1, r1⟩ := q1
  (first | refine Rep.eint r1 fun _ => ?_ | refine Rep.eptr r1 ?_ | refine Rep.estr r1 fun _ => ?_ | refine Rep.eflt r1 fun _ => ?_ | refine Rep.ebool r1 ?_)
  have S1 := S.more k1
  have ha' := ha.run ok A E env s₀ g own F₀ s1 pos hsc ev room S1
  rw [he] at ha' ⊢
  refine callWith_function (o := ⟨oc, od, .func fd, osl⟩) (fd := fd) (evalArgs_plain (wpAny_mono ha' (fun vs s2 q2 => ?_) fun _ _ e => e))
  have S2 := S1.more q2.1
  refine ⟨⟨S2.b0 _ _ (ok.X _ _ ho), rfl⟩, wpAny_call (codeAny_mono (h.run ok A (own ++ F₀) s2 vs (room.less hm) S2.b0 S2.lives q2.2) fun res s3 q3 => ?_)⟩
  obtain ⟨v, rfl, k3, r3⟩ := q3
  exact ⟨kpTrans k1 (kpTrans q2.1 k3), r3⟩
theorem Ev.call0 {f : Str} {p pos : Pos} {a : Addr} {r : D} {fd : FuncData} {oc : Value} {od : Option Addr} {osl : Array (Option Value)}
    (hf : Ev c n sc ρ mu (.Name f p) (.ptr (.ref a))) (ho : c.K.lookup a = some ⟨oc, od, .func fd, osl⟩) (h : FnOK c m a [] r) (hm : m ≤ n) : Ev c n sc ρ mu (.Call (.Name f p) [] [] pos) r := .mk fun ok A E env s₀ g own F₀ s hsc ev room S => by
  refine Call_Name rfl (wpAny_mono (hf.run ok A E env s₀ g own F₀ s hsc ev room S) (fun v s1 q1 => ?_) fun _ _ e => e)
  obtain ⟨k1, r1⟩ := q1
  (first | refine Rep.eint r1 fun _ => ?_ | refine Rep.eptr r1 ?_ | refine Rep.estr r1 fun _ => ?_ | refine Rep.eflt r1 fun _ => ?_ | refine Rep.ebool r1 ?_)
  have S1 := S.more k1
  refine callWith_function (o := ⟨oc, od, .func fd, osl⟩) (fd := fd) (evalArgs_nil3 ?_)
  refine ⟨⟨S1.b0 _ _ (ok.X _ _ ho), rfl⟩, wpAny_call (codeAny_mono (h.run ok A (own ++ F₀) s1 [] (room.less hm) S1.b0 S1.lives .nil) fun res s3 q3 => ?_)⟩
  obtain ⟨v, rfl, k3, r3⟩ := q3
  exact ⟨kpTrans k1 k3, r3⟩

theorem Ev.bltc {f : Str} {p pos : Pos} {e : Expr} {es : List Expr} {b : Value} {ds : List D} {r : D} (hf : Ev c n sc ρ mu (.Name f p) (.ptr b)) (ha : EvL c n sc ρ mu (e :: es) ds) (h : CallV b ds r)
    (hb : (∃ id, b = .builtin id) ∨ ∃ T, b = .type T) (hne : ∀ x ∈ es, ∀ y p, x ≠ Expr.Starred y p)
    (he : ∀ env, starEach (e :: es) env = (false, eval e env) :: starEach es env := by intro _; rfl) : Ev c n sc ρ mu (.Call (.Name f p) (e :: es) [] pos) r := .mk fun ok A E env s₀ g own F₀ s hsc ev room S => by
  refine Call_Name rfl (wpAny_mono (hf.run ok A E env s₀ g own F₀ s hsc ev room S) (fun v s1 q1 => ?_) fun _ _ e => e)
  obtain ⟨k1, r1⟩ := q1
  (first | refine Rep.eint r1 fun _ => ?_ | refine Rep.eptr r1 ?_ | refine Rep.estr r1 fun _ => ?_ | refine Rep.eflt r1 fun _ => ?_ | refine Rep.ebool r1 ?_)
  have S1 := S.more k1
  have ha' := ha.run ok A E env s₀ g own F₀ s1 pos hsc ev room S1
  have hp : (backTo pos (starEach (e :: es) env)).any (·.1) = false := by
    rw [he]
    show (false || (backTo pos (starEach es env)).any (·.1)) = false
    rw [any_back pos es env hne]; rfl
  have run : wpAny (model c.prog c.w) A (evalArgs b true (backTo pos (starEach (e :: es) env)) []) (fun a s₁ => wpAny (model c.prog c.w) A (PySem.call b ([] ++ a.pos) a.kw) (fun v s' => Keeps s s' ∧ Rep (own ++ F₀) s'.heap v r) E s₁) E s1 := by
    rw [he] at ha' ⊢
    refine evalArgs_plain (wpAny_mono ha' (fun vs s2 q2 => ?_) fun _ _ e => e)
    have S2 := S1.more q2.1
    exact wpAny_mono (h.run c.prog c.w A E (own ++ F₀) s2 vs room.handled room.cl64 (S2.nolimit ok) S2.lives q2.2) (fun v s3 q3 => ⟨kpTrans k1 (kpTrans q2.1 q3.1), q3.2⟩) fun _ _ e => e
  rcases hb with ⟨id, rfl⟩ | ⟨T, rfl⟩
  · exact callWith_builtin hp run
  · exact PyProof.Rows.callWith_type hp run

-- an item
structure SubV (d1 d2 d : D) : Prop where
  mk ::
  run : ∀ (prog : Program) (w : World) (A : Around) (E : Value → Shared → Prop) (F : List Addr) (s : Shared) (value slice : Expr) (v1 v2 : Value), A.handled = none →
  (∀ o i, subscripted slice false o i = operate [o, i] (getItem o i)) → Rep F s.heap v1 d1 → Rep F s.heap v2 d2 → wpAny (model prog w) A (subscriptTail value slice v1 v2) (fun v s' => Keeps s s' ∧ Rep F s'.heap v d) E s
theorem SubV.lst {ds : List D} {i : Int} {d : D} (h0 : 0 ≤ i) (h1 : i < 2 ^ 63) (h : ds[i.toNat]? = some d) : SubV (.lst ds) (.int i) d := .mk fun prog w A E F s value slice v1 v2 hh hs r1 r2 => by
  refine Rep.elst r1 fun a vs n ha ho q => ?_
  · refine Rep.eint r2 fun t => ?_
    obtain ⟨v, hv, rv⟩ := q.get h
    have hl : s.heap.IsList a vs.toArray := ⟨_, ho, rfl, n, rfl⟩
    exact tail_any hl.typeIs slot_list_getitem.lookup (wpAny_getItem_list hl h0 h1 (by simpa using hv) ⟨kpRefl s, rv⟩) (hs _ _)
theorem SubV.tup {ds : List D} {i : Int} {d : D} (h0 : 0 ≤ i) (h1 : i < 2 ^ 63) (h : ds[i.toNat]? = some d) : SubV (.tup ds) (.int i) d := .mk fun prog w A E F s value slice v1 v2 hh hs r1 r2 => by
  refine Rep.etup r1 fun a vs n ha ho q => ?_
  · refine Rep.eint r2 fun t => ?_
    obtain ⟨v, hv, rv⟩ := q.get h
    have hl : IsTup s.heap a vs.toArray := ⟨_, ho, rfl, n, rfl⟩
    have hlt : i < vs.length := by
      have := (List.getElem?_eq_some_iff.mp hv).1
      omega
    refine tail_any hl.typeIs slot_tuple_getitem.lookup (getItem_tuple hl (by omega) h1 (j := i.toNat) ?_ (by simpa using hv) ⟨kpRefl s, rv⟩) (hs _ _)
    exact seqIndex_of h0 (by simpa using hlt)
theorem Ev.sub {value slice : Expr} {pos : Pos} {d1 d2 d : D} (h1 : Ev c n sc ρ mu value d1) (h2 : Ev c n sc ρ mu slice d2) (h : SubV d1 d2 d) (hs : ∀ o i, subscripted slice false o i = operate [o, i] (getItem o i) := by intro _ _; with_unfolding_all rfl) :
    Ev c n sc ρ mu (.Subscript value slice pos) d := .mk fun ok A E env s₀ g own F₀ s hsc ev room S => by
  refine Subscript_ (wpAny_mono (h1.run ok A E env s₀ g own F₀ s hsc ev room S) (fun v1 s1 q1 => ?_) fun _ _ e => e)
  have S1 := S.more q1.1
  refine wpAny_mono (h2.run ok A E env s₀ g own F₀ s1 hsc ev room S1) (fun v2 s2 q2 => ?_) fun _ _ e => e
  have S2 := S1.more q2.1
  exact wpAny_mono (h.run c.prog c.w A E (own ++ F₀) s2 value slice v1 v2 room.handled hs (q1.2.keeps (kpLe q2.1)) q2.2) (fun v s3 q3 => ⟨kpTrans q1.1 (kpTrans q2.1 q3.1), q3.2⟩) fun _ _ e => e

/-- an item of the list in turn -/
theorem Ev.subM {x : Str} {p pos : Pos} {slice : Expr} {a : Addr} {ds : List D} {i : Int} {d : D} (h1 : Ev c n sc ρ (some (a, .lst ds)) (.Name x p) (.ptr (.ref a))) (h2 : Ev c n sc ρ (some (a, .lst ds)) slice (.int i)) (h0 : 0 ≤ i) (hi : i < 2 ^ 63) (h : ds[i.toNat]? = some d)
    (hs : ∀ o i, subscripted slice false o i = operate [o, i] (getItem o i) := by intro _ _; with_unfolding_all rfl) : Ev c n sc ρ (some (a, .lst ds)) (.Subscript (.Name x p) slice pos) d := .mk fun ok A E env s₀ g own F₀ s hsc ev room S => by
  refine Subscript_ (wpAny_mono (h1.run ok A E env s₀ g own F₀ s hsc ev room S) (fun v1 s1 q1 => ?_) fun _ _ e => e)
  obtain ⟨k1, r1⟩ := q1
  (first | refine Rep.eint r1 fun _ => ?_ | refine Rep.eptr r1 ?_ | refine Rep.estr r1 fun _ => ?_ | refine Rep.eflt r1 fun _ => ?_ | refine Rep.ebool r1 ?_)
  have S1 := S.more k1
  refine wpAny_mono (h2.run ok A E env s₀ g own F₀ s1 hsc ev room S1) (fun v2 s2 q2 => ?_) fun _ _ e => e
  obtain ⟨k2, r2⟩ := q2
  (first | refine Rep.eint r2 fun _ => ?_ | refine Rep.eptr r2 ?_ | refine Rep.estr r2 fun _ => ?_ | refine Rep.eflt r2 fun _ => ?_ | refine Rep.ebool r2 ?_)
  have S2 := S1.more k2
  obtain ⟨_, _, vs, nn, ho, q⟩ := S2.mtd a _ rfl
  obtain ⟨v, hv, rv⟩ := q.get h
  have hl : s2.heap.IsList a vs.toArray := ⟨_, ho, rfl, nn, rfl⟩
  exact tail_any hl.typeIs slot_list_getitem.lookup (wpAny_getItem_list hl h0 hi (by simpa using hv) ⟨kpTrans k1 k2, rv⟩) (hs _ _)
end

-- built-ins
theorem CallV.lenL {ds : List D} (h : ds.length ≤ 1000000) : CallV (.builtin "len") [.lst ds] (.int ds.length) := .mk fun prog w A E F s vs hh hu hl live r => by
  refine RepL.e1 r fun v r1 => ?_
  refine Rep.elst r1 fun a vs n ha ho q => ?_
  have e : vs.toArray.size = ds.length := by simp [q.length]
  refine PyProof.Rows.len_list (l := a) (items := vs.toArray) ⟨_, ho, rfl, n, rfl⟩ (by rw [e]; omega) ?_
  rw [e]
  exact ⟨kpTok s _, .int _ _⟩
theorem Ents.pairs {prog : Program} {w : World} : ∀ {es : List DictEntry} {kvs : List (Int × Int)}, Ents es kvs → ∃ ks : List (Int × Value), Pairs (intKind prog w) es ks ∧ ks.map (·.1) = kvs.map (·.1) ∧ ks.length = kvs.length ∧ ∀ (i : Nat) (k : Int) (v : Value), ks[i]? = some (k, v) → ∃ (x : Int) (t : Tok), kvs[i]? = some (k, x) ∧ v = Value.int x t
  | _, _, .nil => ⟨[], .nil, rfl, rfl, fun i k v e => by simp at e⟩
  | _, _, .cons (k := k) (v := v) (t := t) (u := u) r => by
    obtain ⟨ks, h1, h2, h3, h4⟩ := Ents.pairs r
    refine ⟨(k, .int v u) :: ks, .cons (by simp [intKind, Value.isInt]) rfl h1, by simp [h2], by simp [h3], fun i k' v' e => ?_⟩
    cases i with
    | zero => simp at e; obtain ⟨rfl, rfl⟩ := e; exact ⟨v, u, rfl, rfl⟩
    | succ i =>
      rw [List.getElem?_cons_succ] at e ⊢
      exact h4 i k' v' e
theorem Ents.keys {prog : Program} {w : World} {es : List DictEntry} {kvs : List (Int × Int)} (x : Ents es kvs) : ∀ e ∈ es, ∃ k, (intKind prog w).is k e.key = true ∧ e.hash = (intKind prog w).hash k := by
  induction x with
  | nil => intro e h; exact absurd h List.not_mem_nil
  | @cons k v t u es kvs r ih =>
    intro e h
    rcases List.mem_cons.mp h with h | h
    · exact ⟨k, by rw [h]; simp [intKind, Value.isInt], by rw [h]; rfl⟩
    · exact ih e h
theorem dictOf_of {prog : Program} {w : World} {h : Heap} {a : Addr} {es : List DictEntry} {n : Nat} {kvs : List (Int × Int)} (ho : h.get? a = some (dctO es n)) (e : Ents es kvs) (hn : (kvs.map (·.1)).Nodup) :
    ∃ ks : List (Int × Value), h.DictAt (intKind prog w) a ks n ∧ ks.map (·.1) = kvs.map (·.1) ∧ ks.length = kvs.length ∧ ∀ (i : Nat) (k : Int) (v : Value), ks[i]? = some (k, v) → ∃ (x : Int) (t : Tok), kvs[i]? = some (k, x) ∧ v = Value.int x t := by
  obtain ⟨ks, h1, h2, h3, h4⟩ := e.pairs (prog := prog) (w := w)
  exact ⟨ks, ⟨_, es.toArray, ho, ⟨rfl, rfl, rfl⟩, rfl, fun x hx => e.keys x (by simpa using hx), by simpa using h1, by rw [h2]; exact hn⟩, h2, h3, h4⟩
theorem CallV.lenD {kvs : List (Int × Int)} (h : kvs.length ≤ 1000000) : CallV (.builtin "len") [.dct kvs] (.int kvs.length) := .mk fun prog w A E F s vs hh hu hl live r => by
  refine RepL.e1 r fun v r1 => ?_
  refine Rep.edct r1 fun a es n ha hm ho e hn => ?_
  obtain ⟨ks, hd, _, h3, _⟩ := dictOf_of (prog := prog) (w := w) ho e hn
  obtain ⟨o, es', h1⟩ := id hd
  refine call_len_dict (knd := intKind prog w) hm (kvs := ks) ⟨o, es', n, h1⟩ (by rw [h3]; omega) ?_
  rw [h3]
  exact ⟨kpTok s _, .int _ _⟩
theorem CallV.min2 {a b : Int} : CallV (.builtin "min") [.int a, .int b] (.int (if b < a then b else a)) := .mk fun prog w A E F s vs hh hu hl live r => by
  refine RepL.e2 r fun v r1 u r2 => ?_
  refine Rep.eint r1 fun _ => ?_
  refine Rep.eint r2 fun _ => ?_
  refine min_two_ints hh fun h' tk hk => ⟨⟨h', tk, rfl, hk⟩, ?_⟩
  split
  · exact .int _ _
  · exact .int _ _
theorem CallV.rng1 {b : Int} : CallV (.type "range") [.int b] (.rng 0 b) := .mk fun prog w A E F s vs hh hu hl live r => by
  refine RepL.e1 r fun v r1 => ?_
  refine Rep.eint r1 fun _ => ?_
  exact call_range_1 ⟨⟨_, _, rfl, fun _ _ e => Heap.get?_push_of_some _ e⟩, .rng live.off (Heap.get?_push_size _ rfl)⟩
theorem CallV.rng2 {a b : Int} : CallV (.type "range") [.int a, .int b] (.rng a b) := .mk fun prog w A E F s vs hh hu hl live r => by
  refine RepL.e2 r fun v r1 u r2 => ?_
  refine Rep.eint r1 fun _ => ?_
  refine Rep.eint r2 fun _ => ?_
  exact call_range_2 ⟨⟨_, _, rfl, fun _ _ e => Heap.get?_push_of_some _ e⟩, .rng live.off (Heap.get?_push_size _ rfl)⟩
theorem CallV.isiT {ds : List D} : CallV (.builtin "isinstance") [.tup ds, .ptr (.type "tuple")] (.bool true) := .mk fun prog w A E F s vs hh hu hl live r => by
  refine RepL.e2 r fun v r1 u r2 => ?_
  refine Rep.eptr r2 ?_
  refine Rep.etup r1 fun a vs n ha ho q => ?_
  exact IsiPair.tuple_tuple ho rfl ⟨kpRefl s, .bool _⟩
theorem CallV.isiS {x : Str} : CallV (.builtin "isinstance") [.str x, .ptr (.type "tuple")] (.bool false) := .mk fun prog w A E F s vs hh hu hl live r => by
  refine RepL.e2 r fun v r1 u r2 => ?_
  refine Rep.eptr r2 ?_
  refine Rep.estr r1 fun _ => ?_
  exact IsiPair.str_tuple ⟨kpTok s _, .bool _⟩
theorem CallV.isiI {x : Int} : CallV (.builtin "isinstance") [.int x, .ptr (.type "tuple")] (.bool false) := .mk fun prog w A E F s vs hh hu hl live r => by
  refine RepL.e2 r fun v r1 u r2 => ?_
  refine Rep.eptr r2 ?_
  refine Rep.eint r1 fun _ => ?_
  exact IsiPair.int_tuple ⟨kpTok s _, .bool _⟩

end Mine

namespace Mine

section
variable {c : Cx} {s₀ s s' : Shared} {g : Addr → Option Obj} {own F₀ F₁ : List Addr} {env : Env} {ρ : Vars} {mu : Option (Addr × M)}

/-- a turn of things that are not the frame's own (X), and another set of addresses around -/
theorem St.turn (S : St c s₀ g own F₀ env ρ mu s) (X : List Addr) (same : Same s s') (hX : ∀ b o, b ∉ X → s.heap.get? b = some o → s'.heap.get? b = some o)
    (hXo : ∀ a ∈ X, a ∉ own) (hXg : ∀ a ∈ X, g a = none) (hXF : ∀ a ∈ X, ∀ o, s.heap.get? a = some o → a ∈ F₀) (hXc : ∀ a ∈ X, ∀ v, ¬ s.heap.IsCell a v)
    (hF : ∀ a o, s.heap.get? a = some o → a ∈ F₁ → a ∈ F₀) (hlive : ∀ a ∈ F₁, a ∉ own ∧ ∃ o, s'.heap.get? a = some o) (hsub : ∀ a v, s.heap.IsCell a v → a ∈ F₀ → a ∈ F₁) :
    St c s₀ g own F₁ env ρ mu s' := by
  have hle : Le (own ++ F₀) s.heap s'.heap := fun b o hb e => hX b o (fun m => hb (List.mem_append_right _ (hXF b m o e))) e
  have hF' : ∀ a o, s.heap.get? a = some o → a ∈ own ++ F₁ → a ∈ own ++ F₀ := fun a o e m => by
    rcases List.mem_append.mp m with m | m
    · exact List.mem_append_left _ m
    · exact List.mem_append_right _ (hF a o e m)
  have hsub' : ∀ a v, s.heap.IsCell a v → a ∈ own ++ F₀ → a ∈ own ++ F₁ := fun a v q m => by
    rcases List.mem_append.mp m with m | m
    · exact List.mem_append_left _ m
    · exact List.mem_append_right _ (hsub a v q m)
  have hcell : ∀ a v, s.heap.IsCell a v → s'.heap.IsCell a v := fun a v q => by
    obtain ⟨o, ho, hd⟩ := q
    exact ⟨o, hX a o (fun m => hXc a m v ⟨o, ho, hd⟩) ho, hd⟩
  have hown : ∀ a o, a ∈ own → s.heap.get? a = some o → s'.heap.get? a = some o := fun a o m e => hX a o (fun q => hXo a q m) e
  refine ⟨S.same.trans same, S.base, fun b o e => hX b o (fun m => by rw [hXg b m] at e; cases e) (S.keep b o e), S.fresh, hlive, S.loc, fun a m => ?_, ?_, fun x k hk e => ?_, fun a md e => ?_⟩
  · obtain ⟨o, ho⟩ := S.alive a m
    exact ⟨o, hown a o m ho⟩
  · obtain ⟨m, hn, hv⟩ := S.vars
    refine ⟨m, hn.at' fun o e => hown _ o S.loc e, fun x d q => ?_⟩
    obtain ⟨v, r, z⟩ := hv x d q
    exact ⟨v, r.move hle hF', z.imp id fun ⟨a, k, b, cc, i⟩ => ⟨a, k, b, hsub' k _ i cc, hcell k _ i⟩⟩
  · obtain ⟨v, q⟩ := S.cells x k hk e
    exact ⟨v, hcell k v q⟩
  · obtain ⟨h1, h2, h3⟩ := S.mtd a md e
    refine ⟨h1, h2, ?_⟩
    cases md with
    | lst ds => obtain ⟨vs, n, q, r⟩ := h3; exact ⟨vs, n, hown _ _ h1 q, r.move hle hF'⟩
    | dct kvs => obtain ⟨hm, es, n, q, r⟩ := h3; exact ⟨hm, es, n, hown _ _ h1 q, r⟩

noncomputable def hideO (own : List Addr) (h : Heap) (b : Addr) : Option Obj := if b ∈ own then none else h.get? b
theorem hideO_some {own : List Addr} {h : Heap} {b : Addr} {o : Obj} (e : hideO own h b = some o) : b ∉ own ∧ h.get? b = some o := by
  unfold hideO at e
  split at e
  · cases e
  · exact ⟨by assumption, e⟩
theorem hideO_of {own : List Addr} {h : Heap} {b : Addr} {o : Obj} (hb : b ∉ own) (e : h.get? b = some o) : hideO own h b = some o := by unfold hideO; rw [if_neg hb]; exact e
theorem St.hide (S : St c s₀ g own F₀ env ρ mu s) : St c s₀ (hideO own s.heap) own F₀ env ρ mu s :=
  S.to _ (fun b o e => hideO_of (fun m => by rw [S.fresh b m] at e; cases e) (S.keep b o e)) (fun b o e => (hideO_some e).2) fun a m => by unfold hideO; rw [if_pos m]
theorem St.unhide {ρ' : Vars} {mu' : Option (Addr × M)} (S : St c s₀ g own F₀ env ρ mu s) (S' : St c s₀ (hideO own s.heap) own F₁ env ρ' mu' s') : St c s₀ g own F₁ env ρ' mu' s' :=
  S'.back (fun b o e => hideO_of (fun m => by rw [S.fresh b m] at e; cases e) (S.keep b o e)) S.base S.fresh
theorem St.kept {ρ' : Vars} {mu' : Option (Addr × M)} (S' : St c s₀ (hideO own s.heap) own F₁ env ρ' mu' s') : ∀ b o, b ∉ own → s.heap.get? b = some o → s'.heap.get? b = some o := fun b o hb e => S'.keep b o (hideO_of hb e)
end

/-- an iterator that hands out n things, the i-th told by R -/
noncomputable def IsIt (prog : Program) (w : World) (A : Around) (target : Expr) (F : List Addr) (h₁ : Heap) (n : Nat) (R : List Addr → Nat → Value → Heap → Prop) (it : Value) (h₂ : Heap) : Prop :=
  ∃ (I : Addr) (fp : List Addr) (P Md : Nat → Value → Heap → Prop) (StK : Nat → Heap → Prop), it = .ref I ∧ KTurns prog w A target I fp [I] n P Md StK ∧ StK 0 h₂ ∧ (∀ b ∈ fp, b ∉ F) ∧ (∀ b ∈ fp, ∃ o, h₂.get? b = some o) ∧ h₁.get? I = none ∧
    (∀ i h, StK i h → ∃ o, h.get? I = some o ∧ ∀ v, o.data ≠ .cell v) ∧
    (∀ i (s : Shared) (Q : Value → Shared → Prop) (E : Value → Shared → Prop), StK i s.heap → Q (.ref I) s → wpAny (model prog w) A (pyIter (.ref I)) Q E s) ∧
    (∀ F' i v h, (∀ a ∈ F', a ∈ I :: F ∨ h₂.get? a = none) → i < n → P i v h → Le (I :: F) h₂ h → R F' i v h)
structure IterV (target : Expr) (d : D) (n : Nat) (R : List Addr → Nat → Value → Heap → Prop) : Prop where
  mk ::
  run : ∀ (prog : Program) (w : World) (A : Around) (E : Value → Shared → Prop) (F : List Addr) (s : Shared) (v : Value), A.handled = none → Live F s.heap →
  Rep F s.heap v d → wpAny (model prog w) A (pyIter v) (fun it s₂ => Keeps s s₂ ∧ IsIt prog w A target F s.heap n R it s₂.heap) E s

noncomputable def Items (ds : List D) (F : List Addr) (i : Nat) (v : Value) (h : Heap) : Prop := ∃ d, ds[i]? = some d ∧ Rep F h v d

theorem letGo_name (x : Str) (p : Pos) (it v : Value) : letOwnedTupleGo (.Name x p) it v = pure () := rfl

/-- for a target that is a name, or a tuple of names over a list -/
noncomputable def Quiet (target : Expr) : Prop := (∃ x p, target = .Name x p) ∨ ∃ ts k p, target = .Tuple ts k p

theorem fresh_none (h : Heap) : h.get? h.objs.size = none := by
  cases e : h.get? h.objs.size with
  | none => rfl
  | some o => exact absurd (Heap.lt_size e) (Nat.lt_irrefl _)

theorem IterV.lst {target : Expr} {ds : List D} (ht : Quiet target) : IterV target (.lst ds) ds.length (Items ds) := .mk fun prog w A E F s v hh live r => by
  refine Rep.elst r fun a vs n ha ho q => ?_
  · skip
    have hl : s.heap.IsList a vs.toArray := ⟨_, ho, rfl, n, rfl⟩
    have hne : a ≠ s.heap.objs.size := Nat.ne_of_lt (Heap.lt_size ho)
    have hlen : vs.toArray.size = ds.length := by simp [q.length]
    refine wpAny_pyIter_list hl ⟨kpPush s _, _, _, _, _, _, rfl, KTurns.ofWalks (hlen ▸ Walks.list (prog := prog) (w := w) hh s.heap.objs.size a hne vs.toArray) ?_, ?_, ?_, ?_, fresh_none _, ?_, ?_, ?_⟩
    · intro i v s' Q E hst hQ
      rcases ht with ⟨x, p, rfl⟩ | ⟨ts, k, p, rfl⟩
      · exact wpAny_pure hQ
      · cases v with
        | ref T => exact wpAny_letOwnedTupleGo_listiter hst.1 hQ
        | _ => exact wpAny_pure hQ
    · exact ⟨⟨_, Heap.get?_push_size _ rfl, rfl, rfl⟩, hl.push _⟩
    · intro b hb
      rcases List.mem_cons.mp hb with rfl | hb
      · exact live.off
      · rw [List.mem_singleton.mp hb]; exact ha
    · intro b hb
      rcases List.mem_cons.mp hb with rfl | hb
      · exact ⟨_, Heap.get?_push_size _ rfl⟩
      · rw [List.mem_singleton.mp hb]; exact ⟨_, Heap.get?_push_of_some _ ho⟩
    · rintro i h ⟨⟨o, e, _, hd⟩, _⟩
      exact ⟨o, e, fun v hv => by rw [hd] at hv; cases hv⟩
    · intro i s' Q E hst hQ
      exact wpAny_pyIter_listiter hst.1 hQ
    · intro F' i v h hF' hi hP hle
      have hP' : vs[i]? = some v := by simpa using hP
      obtain ⟨d, hd, rd⟩ := q.gets hP'
      have rd2 : Rep (s.heap.objs.size :: F) (s.heap.push { cls := .type "list_iterator", data := .fields #[.ref a, .int 0 0] }) v d := rd.move (Le.of_all fun _ _ e => Heap.get?_push_of_some _ e) fun b o e m => by
        rcases List.mem_cons.mp m with rfl | m
        · rw [fresh_none] at e; cases e
        · exact m
      exact ⟨d, hd, rd2.move hle fun b o e m => (hF' b m).resolve_right fun q => (by rw [q] at e; cases e)⟩

theorem IterV.rng {target : Expr} {x : Str} {p : Pos} (ht : target = .Name x p) {a b : Int} {n : Nat} (hn : (if a < b then b - a else 0) = (n : Int)) (ha : -(2 ^ 62) ≤ a) (ha' : a < 2 ^ 62) (hb : -(2 ^ 62) ≤ b) (hb' : b < 2 ^ 62) :
    IterV target (.rng a b) n (Items ((List.range n).map fun i : Nat => D.int (a + (i : Int)))) := .mk fun prog w A E F s v hh live r => by
  refine Rep.erng r fun r t u v hr ho => ?_
  · skip
    have hsz : Builtin.Range.rangeSize a b 1 = (n : Int) := (rangeSize_one a b).trans hn
    refine wpAny_pyIter_range ho (small_one ha ha' hb hb') ⟨kpPush s _, _, _, _, _, _, rfl, KTurns.ofWalks (Walks.range (prog := prog) (w := w) hh s.heap.objs.size a 1 n) ?_, ?_, ?_, ?_, fresh_none _, ?_, ?_, ?_⟩
    · intro i v s' Q E hst hQ
      subst ht
      exact wpAny_pure hQ
    · show IsRangeIter _ _ _ _ _
      rw [hsz]; simpa using Heap.get?_push_size _ rfl
    · intro b hb
      rw [List.mem_singleton.mp hb]; exact live.off
    · intro b hb
      rw [List.mem_singleton.mp hb]; exact ⟨_, Heap.get?_push_size _ rfl⟩
    · intro i h hi
      exact ⟨_, hi, fun v hv => by cases hv⟩
    · intro i s' Q E hst hQ
      exact (Walks.range (prog := prog) (w := w) hh s.heap.objs.size a 1 n).self i s' Q E hst hQ
    · intro F' i v h hF' hi hP hle
      obtain ⟨t, rfl⟩ := hP
      refine ⟨.int (a + (i : Int)), by simp [hi], ?_⟩
      rw [Int.mul_one]
      exact .int _ _

theorem IterV.keys {target : Expr} {x : Str} {p : Pos} (ht : target = .Name x p) {kvs : List (Int × Int)} : IterV target (.dct kvs) kvs.length (Items (kvs.map fun kv => .int kv.1)) := .mk fun prog w A E F s v hh live r => by
  refine Rep.edct r fun a es n ha hm ho e hn => ?_
  · skip
    obtain ⟨ks, hd, h2, h3, h4⟩ := dictOf_of (prog := prog) (w := w) ho e hn
    have hne : a ≠ s.heap.objs.size := Nat.ne_of_lt (Heap.lt_size ho)
    have W := Walks.dictKeys (prog := prog) (w := w) (knd := intKind prog w) hh s.heap.objs.size a hne ks n
    rw [h3] at W
    refine wpAny_pyIter_dict (knd := intKind prog w) hm hd ⟨kpPush s _, _, _, _, _, _, rfl, KTurns.ofWalks W ?_, ?_, ?_, ?_, fresh_none _, ?_, ?_, ?_⟩
    · intro i v s' Q E hst hQ
      subst ht
      exact wpAny_pure hQ
    · refine ⟨⟨_, Heap.get?_push_size _ rfl, rfl, by rw [← h3]; rfl⟩, hd.at' fun o e => Heap.get?_push_of_some _ e⟩
    · intro b hb
      rcases List.mem_cons.mp hb with rfl | hb
      · exact live.off
      · rw [List.mem_singleton.mp hb]; exact ha
    · intro b hb
      rcases List.mem_cons.mp hb with rfl | hb
      · exact ⟨_, Heap.get?_push_size _ rfl⟩
      · rw [List.mem_singleton.mp hb]; exact ⟨_, Heap.get?_push_of_some _ ho⟩
    · rintro i h ⟨⟨o, e, _, hd⟩, _⟩
      exact ⟨o, e, fun v hv => by rw [hd] at hv; cases hv⟩
    · intro i s' Q E hst hQ
      exact W.self i s' Q E hst hQ
    · intro F' i v h hF' hi hP hle
      obtain ⟨k, x, hk, hv⟩ := hP
      obtain ⟨y, t, hy, _⟩ := h4 i k x hk
      refine ⟨.int k, by simp [hy], ?_⟩
      cases v <;> simp [intKind, Value.isInt] at hv
      subst hv
      exact .int _ _

theorem IterV.vals {target : Expr} {x : Str} {p : Pos} (ht : target = .Name x p) {kvs : List (Int × Int)} : IterV target (.vals kvs) kvs.length (Items (kvs.map fun kv => .int kv.2)) := .mk fun prog w A E F s v hh live r => by
  refine Rep.evals r fun v a es n hv hvo ha ho e hn => ?_
  · skip
    obtain ⟨ks, hd, h2, h3, h4⟩ := dictOf_of (prog := prog) (w := w) ho e hn
    have hne : a ≠ s.heap.objs.size := Nat.ne_of_lt (Heap.lt_size ho)
    have W := Walks.dictValues (prog := prog) (w := w) (knd := intKind prog w) hh s.heap.objs.size a hne ks n
    rw [h3] at W
    refine wpAny_pyIter_values (knd := intKind prog w) ⟨_, hvo, rfl, rfl⟩ hd ⟨kpPush s _, _, _, _, _, _, rfl, KTurns.ofWalks W ?_, ?_, ?_, ?_, fresh_none _, ?_, ?_, ?_⟩
    · intro i v s' Q E hst hQ
      subst ht
      exact wpAny_pure hQ
    · refine ⟨⟨_, Heap.get?_push_size _ rfl, rfl, by rw [← h3]; rfl⟩, hd.at' fun o e => Heap.get?_push_of_some _ e⟩
    · intro b hb
      rcases List.mem_cons.mp hb with rfl | hb
      · exact live.off
      · rw [List.mem_singleton.mp hb]; exact ha
    · intro b hb
      rcases List.mem_cons.mp hb with rfl | hb
      · exact ⟨_, Heap.get?_push_size _ rfl⟩
      · rw [List.mem_singleton.mp hb]; exact ⟨_, Heap.get?_push_of_some _ ho⟩
    · rintro i h ⟨⟨o, e, _, hd⟩, _⟩
      exact ⟨o, e, fun v hv => by rw [hd] at hv; cases hv⟩
    · intro i s' Q E hst hQ
      exact W.self i s' Q E hst hQ
    · intro F' i v h hF' hi hP hle
      obtain ⟨k, hk⟩ := hP
      obtain ⟨y, t, hy, rfl⟩ := h4 i k v hk
      exact ⟨.int y, by simp [hy], .int _ _⟩

/-- the pairs of a dict: fresh tuples -/
noncomputable def Pairs2 (kvs : List (Int × Int)) (_ : List Addr) (i : Nat) (v : Value) (h : Heap) : Prop := ∃ (T : Addr) (k x : Int) (t u : Tok), v = .ref T ∧ h.IsTuple T #[.int k t, .int x u] ∧ kvs[i]? = some (k, x)

theorem IterV.its {ts : List Expr} {k0 : Nat} {p0 : Pos} {kvs : List (Int × Int)} : IterV (.Tuple ts k0 p0) (.its kvs) kvs.length (Pairs2 kvs) := .mk fun prog w A E F s v hh live r => by
  refine Rep.eits r fun v a es n hv hvo ha ho e hn => ?_
  · skip
    obtain ⟨ks, hd, h2, h3, h4⟩ := dictOf_of (prog := prog) (w := w) ho e hn
    have hne : a ≠ s.heap.objs.size := Nat.ne_of_lt (Heap.lt_size ho)
    generalize hI : s.heap.objs.size = I at hne
    have W : KTurns prog w A (.Tuple ts k0 p0) I [I, a] [I] kvs.length (fun i v h => ∃ (T : Addr) (k x : Int) (t u : Tok), v = .ref T ∧ h.IsTuple T #[.int k t, .int x u] ∧ kvs[i]? = some (k, x))
        (fun i v h => ∃ (T : Addr) (k x : Int) (t u : Tok), v = .ref T ∧ T ≠ I ∧ h.IsTuple T #[.int k t, .int x u] ∧ kvs[i]? = some (k, x) ∧ IsItemIterOut h I a (i + 1) kvs.length n (.int k t) (.int x u) T ∧ h.DictAt (intKind prog w) a ks n)
        (fun i h => (∃ ok ov, IsItemIter h I a i kvs.length n ok ov) ∧ h.DictAt (intKind prog w) a ks n) := by
      refine ⟨fun b hb => by simp at hb; simp [hb], ?_, ?_, ?_, ?_⟩
      · rintro i h h' ⟨⟨ok, ov, hit⟩, hdd⟩ hk
        exact ⟨⟨ok, ov, hk I (by simp) _ hit⟩, hdd.at' fun o e => hk a (by simp) o e⟩
      · rintro i s' Q E hi ⟨⟨ok, ov, hit⟩, hdd⟩ hQ
        obtain ⟨⟨k, x⟩, hx⟩ : ∃ p, ks[i]? = some p := ⟨ks[i]'(by rw [h3]; exact hi), by simp [h3, hi]⟩
        obtain ⟨y, t, hy, rfl⟩ := h4 i k x hx
        rw [← h3] at hit
        refine wpAny_pyNext_items_item hit hdd hx fun key h' hkey hit' hT hsz hk => ?_
        cases key <;> simp [intKind, Value.isInt] at hkey
        subst hkey
        rename_i t'
        have hlt : I < s'.heap.objs.size := Heap.lt_size hit
        refine hQ _ h' s'.toks ⟨s'.heap.objs.size, _, y, _, _, rfl, Nat.ne_of_gt hlt, ⟨_, hT, rfl, _, rfl⟩, hy, ?_, hdd.at' fun o e => hk a o hne e⟩ fun b o hb e => hk b o (fun q => hb (by simp [q])) e
        rw [← h3]; exact hit'
      · rintro i v s' Q E ⟨T, k, x, t, u, rfl, hTI, hT, hy, hit, hdd⟩ hQ
        refine wpAny_letOwnedTupleGo_items hit fun h' hit' hs => hQ h' ⟨T, k, x, t, u, rfl, hT.extBut hs.extBut hTI, hy⟩ ⟨⟨_, _, hit'⟩, hdd.extBut hs.extBut hne⟩ fun b o hb e => hs.extBut b o (fun q => hb (by simp [q])) e
      · rintro s' Q E ⟨⟨ok, ov, hit⟩, hdd⟩ hQ
        rw [← h3] at hit
        exact wpAny_pyNext_items_end hh hit hdd (by simp) fun h' he => hQ h' s'.toks fun b o hb e => he b o (fun q => hb (by simp [q])) e
    subst hI
    refine wpAny_pyIter_items (knd := intKind prog w) ⟨_, hvo, rfl, rfl⟩ hd ⟨kpPush s _, _, _, _, _, _, rfl, W, ?_, ?_, ?_, fresh_none _, ?_, ?_, ?_⟩
    · refine ⟨⟨.none, .none, ?_⟩, hd.at' fun o e => Heap.get?_push_of_some _ e⟩
      rw [← h3]
      exact Heap.get?_push_size _ rfl
    · intro b hb
      rcases List.mem_cons.mp hb with rfl | hb
      · exact live.off
      · rw [List.mem_singleton.mp hb]; exact ha
    · intro b hb
      rcases List.mem_cons.mp hb with rfl | hb
      · exact ⟨_, Heap.get?_push_size _ rfl⟩
      · rw [List.mem_singleton.mp hb]; exact ⟨_, Heap.get?_push_of_some _ ho⟩
    · rintro i h ⟨⟨ok, ov, e⟩, _⟩
      exact ⟨_, e, fun v hv => by cases hv⟩
    · rintro i s' Q E ⟨⟨ok, ov, hit⟩, _⟩ hQ
      exact kcp_self hit hQ
    · intro F' i v h hF' hi hP hle
      exact hP

end Mine

namespace Mine

noncomputable def LoopPost (c : Cx) (s₀ : Shared) (g : Addr → Option Obj) (own F₁ : List Addr) (env : Env) (ρ : Vars) (mu : Option (Addr × M)) (stop : Prop) (dr : D) (fl : Flow) (s' : Shared) : Prop :=
  match fl with
  | .next | .cont => St c s₀ g own F₁ env ρ mu s'
  | .ret v => stop ∧ St c s₀ g own F₁ env [] none s' ∧ Rep (own ++ F₁) s'.heap v dr
  | .brk => False

section
variable {c : Cx} {n : Nat} {sc : Scope} {s₀ s : Shared} {g : Addr → Option Obj} {own F₀ : List Addr} {env : Env} {A : Around} {E : Value → Shared → Prop} {Q : Flow → Shared → Prop} {rest : List Stmt}

/-- a frame's state as an iterator is made -/
theorem St.withIt {ρ : Vars} {mu : Option (Addr × M)} {s' : Shared} {I : Addr} (S : St c s₀ g own F₀ env ρ mu s) (k : Keeps s s') (hI : s.heap.get? I = none) (hI2 : ∃ o, s'.heap.get? I = some o) : St c s₀ g own (I :: F₀) env ρ mu s' := by
  refine S.turn [] (kpSame k) (fun b o _ e => kpLe k b o e) (fun _ m => (nomatch m)) (fun _ m => (nomatch m)) (fun _ m => (nomatch m)) (fun _ m => (nomatch m)) (fun a o e m => ?_) (fun a m => ?_) fun a v q m => List.mem_cons_of_mem _ m
  · rcases List.mem_cons.mp m with rfl | m
    · rw [hI] at e; cases e
    · exact m
  · rcases List.mem_cons.mp m with rfl | m
    · exact ⟨fun q => (by obtain ⟨o, e⟩ := S.alive _ q; rw [hI] at e; cases e), hI2⟩
    · obtain ⟨h1, o, e⟩ := S.live a m
      exact ⟨h1, o, kpLe k _ _ e⟩

theorem ex_for {target iter : Expr} {body : List Stmt} {pos : Pos} {d : D} {len : Nat} {R : List Addr → Nat → Value → Heap → Prop} {ρ ρ' : Nat → Vars} {mu : Nat → Option (Addr × M)} {stop : Nat → Prop} {dr : Nat → D}
    (f : Fm c n sc env own A) (S : St c s₀ g own F₀ env (ρ 0) (mu 0) s) (hit : Ev c n sc (ρ 0) (mu 0) iter d) (hI : IterV target d len R)
    (hasg : ∀ (E : Value → Shared → Prop) i v g' F₁ s', i < len → St c s₀ g' own F₁ env (ρ i) (mu i) s' → R (own ++ F₁) i v s'.heap → wpAny (model c.prog c.w) A (assign target env v) (fun _ s'' => St c s₀ g' own F₁ env (ρ' i) (mu i) s'') E s')
    (hbody : ∀ (E : Value → Shared → Prop) i g' F₁ s', i < len → St c s₀ g' own F₁ env (ρ' i) (mu i) s' → Ex c A env body (LoopPost c s₀ g' own F₁ env (ρ (i + 1)) (mu (i + 1)) (stop i) (dr i)) E s')
    (hdone : ∀ s', St c s₀ g own F₀ env (ρ len) (mu len) s' → Ex c A env rest Q E s')
    (hret : ∀ i v s', i < len → stop i → St c s₀ g own F₀ env [] none s' → Rep (own ++ F₀) s'.heap v (dr i) → Q (.ret v) s')
    (hs : ∀ x, foldedSetIterable iter env x = pure x) : Ex c A env (.For target iter body [] pos :: rest) Q E s := by
  refine ⟨wpAny_execs_cons (wpAny_For (wpAny_mono (hit.run f.ok A E env s₀ g own F₀ s f.hsc f.ev f.room S) (fun xv s1 q1 => ?_) fun _ _ e => e) hs)⟩
  have S1 := S.more q1.1
  refine wpAny_mono (hI.run c.prog c.w A E (own ++ F₀) s1 xv f.room.handled S1.lives q1.2) (fun it s2 q2 => ?_) fun _ _ e => e
  obtain ⟨k2, I, fp, P, Md, StK, rfl, W, hst, hfpF, hfpo, hIn, hob, _, hR⟩ := q2
  have hIo : I ∉ own := fun q => by obtain ⟨o, e⟩ := S1.alive _ q; rw [hIn] at e; cases e
  have hIg : g I = none := by
    cases e : g I with
    | none => rfl
    | some o => have := S1.keep _ _ e; rw [hIn] at this; cases this
  have hfpo' : ∀ b ∈ fp, b ∉ own := fun b hb m => hfpF b hb (List.mem_append_left _ m)
  have S2 : St c s₀ g own (I :: F₀) env (ρ 0) (mu 0) s2 := S1.withIt k2 hIn (let ⟨o, e, _⟩ := hob 0 _ hst; ⟨o, e⟩)
  refine codeAny_forLoop_any (fun k s' => ∃ i, i ≤ len ∧ k = len + 1 - i ∧ St c s₀ g own (I :: F₀) env (ρ i) (mu i) s' ∧ StK i s'.heap ∧ Le (I :: (own ++ F₀)) s2.heap s'.heap) ?_ (len + 1)
    ⟨0, Nat.zero_le _, rfl, S2, hst, Le.refl _ _⟩
  rintro k s' ⟨i, hi, rfl, S', hst', hle'⟩
  by_cases hlt : i < len
  · refine W.item i s' _ _ hlt hst' fun v h1 tk1 hMd hk1 => ?_
    refine W.go i v _ _ _ hMd fun h2 hP hst2 hk2 => ?_
    have hk12 : ∀ b o, b ∉ [I] → s'.heap.get? b = some o → h2.get? b = some o := fun b o hb e => hk2 b o hb (hk1 b o hb e)
    have hle2 : Le (I :: (own ++ F₀)) s2.heap h2 := fun b o hb e => hk12 b o (fun m => hb (by rw [List.mem_singleton.mp m]; exact .head _)) (hle' b o hb e)
    have S'' : St c s₀ g own (I :: F₀) env (ρ i) (mu i) { s' with heap := h2, toks := tk1 } := by
      refine S'.turn [I] ⟨h2, tk1, rfl⟩ hk12 (fun a m => by rw [List.mem_singleton.mp m]; exact hIo) (fun a m => by rw [List.mem_singleton.mp m]; exact hIg) (fun a m o _ => by rw [List.mem_singleton.mp m]; exact .head _)
        (fun a m v q => ?_) (fun a o _ m => m) (fun a m => ?_) fun a v q m => m
      · rw [List.mem_singleton.mp m] at q
        obtain ⟨o, e, hd⟩ := q
        obtain ⟨o', e', hd'⟩ := hob i _ hst'
        rw [e] at e'; cases e'
        exact hd' v hd
      · rcases List.mem_cons.mp m with rfl | m
        · exact ⟨hIo, let ⟨o, e, _⟩ := hob (i + 1) _ hst2; ⟨o, e⟩⟩
        · obtain ⟨h1', o, e⟩ := S'.live a (List.mem_cons_of_mem _ m)
          by_cases q : a = I
          · subst q; exact ⟨hIo, let ⟨o, e, _⟩ := hob (i + 1) _ hst2; ⟨o, e⟩⟩
          · exact ⟨h1', o, hk12 a o (fun m => q (List.mem_singleton.mp m)) e⟩
    have hRv : R (own ++ (I :: F₀)) i v h2 := hR _ i v h2 (fun a m => by
      refine .inl ?_
      rcases List.mem_append.mp m with m | m
      · exact List.mem_cons_of_mem _ (List.mem_append_left _ m)
      · rcases List.mem_cons.mp m with rfl | m
        · exact .head _
        · exact List.mem_cons_of_mem _ (List.mem_append_right _ m)) hlt hP hle2
    refine wpAny_mono (hasg _ i v _ _ _ hlt S''.hide hRv) (fun _ s3 S3 => ?_) fun _ _ e => e
    refine wpAny_mono (hbody _ i _ _ _ hlt S3).go (fun fl s4 q4 => ?_) fun _ _ e => e
    have next : St c s₀ (hideO own h2) own (I :: F₀) env (ρ (i + 1)) (mu (i + 1)) s4 → ∃ m, m < len + 1 - i ∧ ∃ i, i ≤ len ∧ m = len + 1 - i ∧ St c s₀ g own (I :: F₀) env (ρ i) (mu i) s4 ∧ StK i s4.heap ∧ Le (I :: (own ++ F₀)) s2.heap s4.heap := fun S4 => by
      have hk := St.kept (s := { s' with heap := h2, toks := tk1 }) S4
      refine ⟨len + 1 - (i + 1), by omega, i + 1, hlt, rfl, S''.unhide S4, W.frame _ _ _ hst2 fun b hb o e => hk b o (hfpo' b hb) e, fun b o hb e => hk b o (fun m => hb (List.mem_cons_of_mem _ (List.mem_append_left _ m))) (hle2 b o hb e)⟩
    cases fl with
    | next => exact next q4
    | cont => exact next q4
    | brk => exact q4.elim
    | ret v =>
      obtain ⟨h1', S4, r4⟩ := q4
      have S5 := S''.unhide S4
      refine hret i v s4 hlt h1' (S5.turn [] (Same.refl _) (fun b o _ e => e) (fun _ m => (nomatch m)) (fun _ m => (nomatch m)) (fun _ m => (nomatch m)) (fun _ m => (nomatch m)) (fun a o _ m => List.mem_cons_of_mem _ m) (fun a m => S5.live a (List.mem_cons_of_mem _ m)) ?_) (r4.less fun a m => ?_)
      · intro a v q m
        rcases List.mem_cons.mp m with rfl | m
        · exfalso
          obtain ⟨o, e, hd⟩ := q
          have hkI := St.kept (s := { s' with heap := h2, toks := tk1 }) S4
          obtain ⟨o', e', hd'⟩ := hob (i + 1) _ hst2
          rw [hkI _ o' hIo e'] at e; cases e
          exact hd' v hd
        · exact m
      · rcases List.mem_append.mp m with m | m
        · exact List.mem_append_left _ m
        · exact List.mem_append_right _ (List.mem_cons_of_mem _ m)
  · have hin : i = len := by omega
    subst hin
    refine W.done s' _ _ hst' fun h1 tk1 hk1 => wpAny_execs_nil ?_
    refine (hdone _ ?_).go
    refine S'.turn [I] ⟨h1, tk1, rfl⟩ hk1 (fun a m => by rw [List.mem_singleton.mp m]; exact hIo) (fun a m => by rw [List.mem_singleton.mp m]; exact hIg) (fun a m o _ => by rw [List.mem_singleton.mp m]; exact .head _)
      (fun a m v q => ?_) (fun a o _ m => List.mem_cons_of_mem _ m) (fun a m => ?_) fun a v q m => ?_
    · rw [List.mem_singleton.mp m] at q
      obtain ⟨o, e, hd⟩ := q
      obtain ⟨o', e', hd'⟩ := hob i _ hst'
      rw [e] at e'; cases e'
      exact hd' v hd
    · obtain ⟨h1', o, e⟩ := S'.live a (List.mem_cons_of_mem _ m)
      refine ⟨h1', o, hk1 a o (fun q => ?_) e⟩
      -- the iterator is new, so it is none of the addresses around
      have hFI : I ∉ F₀ := fun m' => by
        obtain ⟨_, o', e'⟩ := S1.live I m'
        rw [hIn] at e'; cases e'
      exact hFI (List.mem_singleton.mp q ▸ m)
    · rcases List.mem_cons.mp m with rfl | m
      · exfalso
        obtain ⟨o, e, hd⟩ := q
        obtain ⟨o', e', hd'⟩ := hob i _ hst'
        rw [e] at e'; cases e'
        exact hd' v hd
      · exact m

/-- a loop whose target is assigned by Asg -/
theorem asg_items {target : Expr} {ds : List D} {ρ ρ' : Nat → Vars} {mu : Nat → Option (Addr × M)} (f : Fm c n sc env own A) (h : ∀ i d, ds[i]? = some d → Asg c sc (fun _ => true) (mu i) target d (ρ i) (ρ' i)) :
    ∀ (E : Value → Shared → Prop) i v g' F₁ s', i < ds.length → St c s₀ g' own F₁ env (ρ i) (mu i) s' → Items ds (own ++ F₁) i v s'.heap → wpAny (model c.prog c.w) A (assign target env v) (fun _ s'' => St c s₀ g' own F₁ env (ρ' i) (mu i) s'') E s' :=
  fun E i v g' F₁ s' _ S' ⟨d, hd, r⟩ => (h i d hd).run A E env s₀ g' own F₁ s' v f.hsc f.ev (fun x _ hk => f.oc.at (by unfold Env.kindOf; rw [f.hsc]; exact hk)) f.room.handled S' r
end

end Mine

namespace Mine

section
variable {c : Cx} {s₀ s : Shared} {g : Addr → Option Obj} {own F₀ : List Addr} {env : Env} {ρ : Vars} {A : Around} {E : Value → Shared → Prop} {a : Addr} {ds : List D} {d : D} {v : Value}

/-- a thing of the frame's own turned -/
theorem St.mutate {md md' : M} {s' : Shared} (S : St c s₀ g own F₀ env ρ (some (a, md)) s) (same : Same s s') (hs : Heap.SameBut a s.heap s'.heap) (hm : MAt (own ++ F₀) s'.heap a md') : St c s₀ g own F₀ env ρ (some (a, md')) s' := by
  obtain ⟨h1, h2, h3⟩ := S.mtd a md rfl
  have hA : a ∈ own ++ F₀ := List.mem_append_left _ h1
  have hle : Le (own ++ F₀) s.heap s'.heap := fun p o hp e => (hs.2 p (fun q => hp (q ▸ hA))).trans e
  have hcell : ∀ k v, s.heap.IsCell k v → s'.heap.IsCell k v := fun k v q => q.sameBut hs fun e => h3.notCell (e ▸ q)
  refine ⟨S.same.trans same, S.base, fun b o e => ?_, S.fresh, fun b m => ?_, S.loc, fun b m => ?_, ?_, fun x k hk e => ?_, fun b md'' e => ?_⟩
  · exact (hs.2 b (fun q => by have := S.fresh _ h1; rw [← q, e] at this; cases this)).trans (S.keep b o e)
  · obtain ⟨x, o, e⟩ := S.live b m
    exact ⟨x, o, (hs.2 b (fun q => x (q ▸ h1))).trans e⟩
  · by_cases q : b = a
    · subst q
      cases md' with
      | lst ds => obtain ⟨vs, n, e, _⟩ := hm; exact ⟨_, e⟩
      | dct kvs => obtain ⟨_, es, n, e, _⟩ := hm; exact ⟨_, e⟩
    · obtain ⟨o, e⟩ := S.alive b m
      exact ⟨o, (hs.2 b q).trans e⟩
  · obtain ⟨m, hn, hv⟩ := S.vars
    refine ⟨m, hn.sameBut hs (Ne.symm h2), fun x d q => ?_⟩
    obtain ⟨v, r, z⟩ := hv x d q
    exact ⟨v, r.le hle, z.imp id fun ⟨p, k, b, cc, i⟩ => ⟨p, k, b, cc, hcell k _ i⟩⟩
  · obtain ⟨v, q⟩ := S.cells x k hk e
    exact ⟨v, hcell k v q⟩
  · cases e; exact ⟨h1, h2, hm⟩

theorem st_append {Q : Value → Shared → Prop} (S : St c s₀ g own F₀ env ρ (some (a, .lst ds)) s) (r : Rep (own ++ F₀) s.heap v d) (hz : ds.length ≤ 100000) (h : ∀ s', St c s₀ g own F₀ env ρ (some (a, .lst (ds ++ [d]))) s' → (∀ b o, b ≠ a → s.heap.get? b = some o → s'.heap.get? b = some o) → Q .none s') :
    wpAny (model c.prog c.w) A (PySem.call (.builtin "list.append") [.ref a, v]) Q E s := by
  obtain ⟨h1, h2, vs, n, ho, q⟩ := S.mtd a _ rfl
  refine wpAny_list_append_plain (items := vs.toArray) ⟨n, ho⟩ (fun h' hl hs => ?_) (by have := q.length; rw [sizeLine_eq]; simp; omega)
  obtain ⟨n', ho'⟩ := hl
  have hA : a ∈ own ++ F₀ := List.mem_append_left _ h1
  have hle : Le (own ++ F₀) s.heap h' := fun p o hp e => (hs.2 p (fun q => hp (q ▸ hA))).trans e
  refine h _ (S.mutate ⟨h', _, rfl⟩ hs ⟨vs ++ [v], n', ?_, (q.le hle).append (.cons (r.le hle) .nil)⟩) fun b o hb e => (hs.2 b hb).trans e
  rw [ho']; simp
end

end Mine

namespace Mine

-- the turns of a comprehension, step by step
section
variable {prog : Program} {w : World} {A : Around} {R : Result → Shared → Prop} {s : Shared}

theorem compTurn_last1 (elt target iter : Expr) (ifs : List Expr) (g0 : Comprehension) (scope : Scope) (pos : Pos) (it acc : Value) (env : Env) :
    compTurn (.ListComp elt [g0, ⟨target, iter, ifs, 0⟩] scope pos) 1 it acc env = (do
      standAt iter.pos
      match ← pyNext it with
      | none => pure (.done .next)
      | some v =>
        letOwnedTupleGo target it v
        assign target env v
        let mut ok := true
        for c in ifs do
          if ok then ok ← isTrue c env (eval c env)
        if ok then
          (do let _ ← call (.builtin "list.append") [acc, ← eval elt env])
        again (.compLoop (.ListComp elt [g0, ⟨target, iter, ifs, 0⟩] scope pos) 1 it acc env)) := by rfl

theorem compTurn_first2 (elt target iter : Expr) (g1 : Comprehension) (h1 : g1.is_async = 0) (scope : Scope) (pos : Pos) (it acc : Value) (env : Env) :
    compTurn (.ListComp elt [⟨target, iter, [], 0⟩, g1] scope pos) 0 it acc env = (do
      standAt iter.pos
      match ← pyNext it with
      | none => pure (.done .next)
      | some v =>
        letOwnedTupleGo target it v
        assign target env v
        let x ← eval g1.iter env
        standAt g1.iter.pos
        let x ← foldedSetIterable g1.iter env x
        let _ ← runOwn (.compStart (.ListComp elt [⟨target, iter, [], 0⟩, g1] scope pos) 1 (← holding [x] (pyIter x)) acc env) env
        again (.compLoop (.ListComp elt [⟨target, iter, [], 0⟩, g1] scope pos) 0 it acc env)) := by
  obtain ⟨t1, i1, f1, a1⟩ := g1
  simp only at h1
  subst h1
  rfl

noncomputable abbrev testsOf (ifs : List Expr) (env : Env) : Sem Bool := forIn ifs true fun c r => if r = true then do let ok ← isTrue c env (eval c env); pure (ForInStep.yield ok) else pure (ForInStep.yield r)

/-- what a turn of a last for asks -/
noncomputable def LastTurn (prog : Program) (w : World) (A : Around) (elt target : Expr) (ifs : List Expr) (it acc : Value) (env : Env) (R : Result → Shared → Prop) (I : Nat → Shared → Prop) : Prop :=
  ∀ n s, I n s → wpAny (model prog w) A (pyNext it) (fun r s₁ => match r with
      | none => R (.ok .next) s₁
      | some v => wpAny (model prog w) A (letOwnedTupleGo target it v) (fun _ s₁' => wpAny (model prog w) A (assign target env v) (fun _ s₂ =>
          wpAny (model prog w) A (testsOf ifs env) (fun ok s₃ =>
            if ok = true then wpAny (model prog w) A (eval elt env) (fun x s₄ =>
              wpAny (model prog w) A (call (.builtin "list.append") [acc, x]) (fun _ s₅ => ∃ m, m < n ∧ I m s₅) (notedBy (model prog w) A env fun e s' => R (.error e) s') s₄) (notedBy (model prog w) A env fun e s' => R (.error e) s') s₃
            else ∃ m, m < n ∧ I m s₃) (notedBy (model prog w) A env fun e s' => R (.error e) s') s₂) (notedBy (model prog w) A env fun e s' => R (.error e) s') s₁') (notedBy (model prog w) A env fun e s' => R (.error e) s') s₁) (notedBy (model prog w) A env fun e s' => R (.error e) s') s

theorem loop_last0 {elt target iter : Expr} {ifs : List Expr} {scope : Scope} {pos : Pos} {it acc : Value} {env : Env} (I : Nat → Shared → Prop) (turn : LastTurn prog w A elt target ifs it acc env R I)
    (n : Nat) (h : I n s) : codeAny (model prog w) A (.compLoop (.ListComp elt [⟨target, iter, ifs, 0⟩] scope pos) 0 it acc env) R s := by
  refine codeAny_loop rfl I (fun n s hI => ?_) n h
  show wpAny _ A ((compTurn (.ListComp elt [⟨target, iter, ifs, 0⟩] scope pos) 0 it acc env).onRaise (fun x => do noteFrame x env; theTreesLotGoes x)) _ _ s
  refine wpAny_noted ?_
  rw [compTurn_list]
  refine wpAny_bind (wpAny_standAt (wpAny_bind (wpAny_mono (turn n s hI) (fun r s₁ h₁ => ?_) fun _ _ h' => h')))
  cases r with
  | none => exact wpAny_pure h₁
  | some v =>
    refine wpAny_bind (wpAny_mono h₁ (fun _ s₁' h₁' => ?_) fun _ _ h' => h')
    refine wpAny_bind (wpAny_mono h₁' (fun _ s₂ h₂ => wpAny_bind (wpAny_mono h₂ (fun ok s₃ h₃ => ?_) fun _ _ h' => h')) fun _ _ h' => h')
    cases ok with
    | false => exact wpAny_pure ⟨rfl, h₃⟩
    | true => exact wpAny_bind (wpAny_bind (wpAny_mono h₃ (fun x s₄ h₄ => wpAny_bind (wpAny_mono h₄ (fun _ s₅ h₅ => wpAny_pure (wpAny_pure ⟨rfl, h₅⟩)) fun _ _ h' => h')) fun _ _ h' => h'))

theorem loop_last1 {elt target iter : Expr} {ifs : List Expr} {g0 : Comprehension} {scope : Scope} {pos : Pos} {it acc : Value} {env : Env} (I : Nat → Shared → Prop) (turn : LastTurn prog w A elt target ifs it acc env R I)
    (n : Nat) (h : I n s) : codeAny (model prog w) A (.compLoop (.ListComp elt [g0, ⟨target, iter, ifs, 0⟩] scope pos) 1 it acc env) R s := by
  refine codeAny_loop rfl I (fun n s hI => ?_) n h
  show wpAny _ A ((compTurn (.ListComp elt [g0, ⟨target, iter, ifs, 0⟩] scope pos) 1 it acc env).onRaise (fun x => do noteFrame x env; theTreesLotGoes x)) _ _ s
  refine wpAny_noted ?_
  rw [compTurn_last1]
  refine wpAny_bind (wpAny_standAt (wpAny_bind (wpAny_mono (turn n s hI) (fun r s₁ h₁ => ?_) fun _ _ h' => h')))
  cases r with
  | none => exact wpAny_pure h₁
  | some v =>
    refine wpAny_bind (wpAny_mono h₁ (fun _ s₁' h₁' => ?_) fun _ _ h' => h')
    refine wpAny_bind (wpAny_mono h₁' (fun _ s₂ h₂ => wpAny_bind (wpAny_mono h₂ (fun ok s₃ h₃ => ?_) fun _ _ h' => h')) fun _ _ h' => h')
    cases ok with
    | false => exact wpAny_pure ⟨rfl, h₃⟩
    | true => exact wpAny_bind (wpAny_bind (wpAny_mono h₃ (fun x s₄ h₄ => wpAny_bind (wpAny_mono h₄ (fun _ s₅ h₅ => wpAny_pure (wpAny_pure ⟨rfl, h₅⟩)) fun _ _ h' => h')) fun _ _ h' => h'))

theorem loop_first2 {elt target iter : Expr} {g1 : Comprehension} (h1 : g1.is_async = 0) {scope : Scope} {pos : Pos} {it acc : Value} {env : Env} (I : Nat → Shared → Prop)
    (turn : ∀ n s, I n s → wpAny (model prog w) A (pyNext it) (fun r s₁ => match r with
      | none => R (.ok .next) s₁
      | some v => wpAny (model prog w) A (letOwnedTupleGo target it v) (fun _ s₁' => wpAny (model prog w) A (assign target env v) (fun _ s₂ =>
          wpAny (model prog w) A (eval g1.iter env) (fun x s₃ => wpAny (model prog w) A (pyIter x) (fun it' s₄ =>
            codeAny (model prog w) A (.compStart (.ListComp elt [⟨target, iter, [], 0⟩, g1] scope pos) 1 it' acc env) (fun r s' => r = .ok .next ∧ ∃ m, m < n ∧ I m s') s₄)
            (notedBy (model prog w) A env fun e s' => R (.error e) s') s₃) (notedBy (model prog w) A env fun e s' => R (.error e) s') s₂) (notedBy (model prog w) A env fun e s' => R (.error e) s') s₁') (notedBy (model prog w) A env fun e s' => R (.error e) s') s₁) (notedBy (model prog w) A env fun e s' => R (.error e) s') s)
    (hs : ∀ x, foldedSetIterable g1.iter env x = pure x)
    (n : Nat) (h : I n s) : codeAny (model prog w) A (.compLoop (.ListComp elt [⟨target, iter, [], 0⟩, g1] scope pos) 0 it acc env) R s := by
  refine codeAny_loop rfl I (fun n s hI => ?_) n h
  show wpAny _ A ((compTurn (.ListComp elt [⟨target, iter, [], 0⟩, g1] scope pos) 0 it acc env).onRaise (fun x => do noteFrame x env; theTreesLotGoes x)) _ _ s
  refine wpAny_noted ?_
  rw [compTurn_first2 _ _ _ _ h1]
  refine wpAny_bind (wpAny_standAt (wpAny_bind (wpAny_mono (turn n s hI) (fun r s₁ h₁ => ?_) fun _ _ h' => h')))
  cases r with
  | none => exact wpAny_pure h₁
  | some v =>
    refine wpAny_bind (wpAny_mono h₁ (fun _ s₁' h₁' => ?_) fun _ _ h' => h')
    refine wpAny_bind (wpAny_mono h₁' (fun _ s₂ h₂ => ?_) fun _ _ h' => h')
    refine wpAny_bind (wpAny_mono h₂ (fun x s₃ h₃ => ?_) fun _ _ h' => h')
    refine wpAny_bind (wpAny_standAt (wpAny_bind (wpAny_of_eq (hs x) ?_)))
    refine wpAny_bind (wpAny_holding (wpAny_mono h₃ (fun it' s₄ h₄ => ?_) fun _ _ h' => h'))
    refine wpAny_bind (wpAny_runOwn (codeAny_mono h₄ fun r s' hr => ?_))
    obtain ⟨rfl, hr⟩ := hr
    exact wpAny_pure ⟨rfl, hr⟩

theorem start0 {elt : Expr} {g0 : Comprehension} {gs : List Comprehension} (h0 : g0.is_async = 0) {scope : Scope} {pos : Pos} {I : Addr} {acc : Value} {env : Env}
    (hself : ∀ (Q : Value → Shared → Prop) (E : Value → Shared → Prop), Q (.ref I) s → wpAny (model prog w) A (pyIter (.ref I)) Q E s)
    (h : codeAny (model prog w) A (.compLoop (.ListComp elt (g0 :: gs) scope pos) 0 (.ref I) acc env) R s) : codeAny (model prog w) A (.compStart (.ListComp elt (g0 :: gs) scope pos) 0 (.ref I) acc env) R s := by
  obtain ⟨t, i, f, a⟩ := g0
  simp only at h0
  subst h0
  exact codeAny_compStart_list h (hself _ _ h)
theorem start1 {elt : Expr} {g0 : Comprehension} {target iter : Expr} {ifs : List Expr} {scope : Scope} {pos : Pos} {I : Addr} {acc : Value} {env : Env}
    (hself : ∀ (Q : Value → Shared → Prop) (E : Value → Shared → Prop), Q (.ref I) s → wpAny (model prog w) A (pyIter (.ref I)) Q E s)
    (h : codeAny (model prog w) A (.compLoop (.ListComp elt [g0, ⟨target, iter, ifs, 0⟩] scope pos) 1 (.ref I) acc env) R s) : codeAny (model prog w) A (.compStart (.ListComp elt [g0, ⟨target, iter, ifs, 0⟩] scope pos) 1 (.ref I) acc env) R s := by
  refine codeAny_of_tree ?_
  show wpAny _ _ ((compStart (.ListComp elt [g0, ⟨target, iter, ifs, 0⟩] scope pos) 1 (.ref I) acc env).onRaise (fun x => do noteFrame x env; standAt theWindowsPlace)) _ _ s
  refine wpAny_notedAt ?_
  unfold compStart
  show wpAny _ _ (ask >>= _) _ _ s
  refine wpAny_bind (wpAny_askSetting (wpAny_ite ?_))
  split
  · first
      | exact wpAny_bind (wpAny_pure (wpAny_pure (And.intro rfl h)))
      | exact wpAny_pure (And.intro rfl h)
  · refine wpAny_bind (wpAny_rule ?_)
    show wpAny _ _ (standAt iter.pos >>= _) _ _ s
    exact wpAny_bind (wpAny_standAt (wpAny_bind (hself _ _ (wpAny_pure (And.intro rfl h)))))
end

end Mine

namespace Mine

/-- the tests of a for, all of them -/
structure TrS (c : Cx) (n : Nat) (sc : Scope) (ρ : Vars) (mu : Option (Addr × M)) (ifs : List Expr) (b : Bool) : Prop where
  mk ::
  run : 
  c.Ok → ∀ (A : Around) (E : Value → Shared → Prop) (env : Env) (s₀ : Shared) (g : Addr → Option Obj) (own F₀ : List Addr) (s : Shared), env.scope = sc → EnvOk env → Room A n → St c s₀ g own F₀ env ρ mu s →
    wpAny (model c.prog c.w) A (testsOf ifs env) (fun r s' => Keeps s s' ∧ r = b) E s
theorem TrS.nil {c : Cx} {n : Nat} {sc : Scope} {ρ : Vars} {mu : Option (Addr × M)} : TrS c n sc ρ mu [] true := .mk fun _ _ _ _ _ _ _ _ s _ _ _ _ => wpAny_tests_nil ⟨kpRefl s, rfl⟩
theorem TrS.one {c : Cx} {n : Nat} {sc : Scope} {ρ : Vars} {mu : Option (Addr × M)} {t : Expr} {b : Bool} (h : Tr c n sc ρ mu t b) : TrS c n sc ρ mu [t] b := .mk fun ok A E env s₀ g own F₀ s hsc ev room S => wpAny_tests_one (h.run ok A E env s₀ g own F₀ s hsc ev room S)

section
variable {c : Cx} {n : Nat} {sc : Scope} {s₀ s : Shared} {g : Addr → Option Obj} {own F₀ : List Addr} {env : Env} {A : Around} {D0 : Addr} {ds : List D}

theorem last_run {α : Type} {elt target : Expr} {ifs : List Expr} {items : List α} {emb : α → D} {p : α → Bool} {e : α → D} {ρ : Vars} {ρ' : α → Vars} {R : Result → Shared → Prop} {os : Str → Bool}
    (ok : c.Ok) (hsc : env.scope = sc) (ev : EnvOk env) (room : Room A n) (hos : ∀ x, os x = true → sc.names.lookup x = some .cell → OwnX env own x)
    {I : Addr} {fp : List Addr} {P Md : Nat → Value → Heap → Prop} {StK : Nat → Heap → Prop} (W : KTurns c.prog c.w A target I fp [I] items.length P Md StK)
    (hob : ∀ i h, StK i h → ∃ o, h.get? I = some o ∧ ∀ v, o.data ≠ .cell v) (hfp : ∀ b ∈ fp, b ∉ own) (S : St c s₀ g own F₀ env ρ (some (D0, .lst ds)) s) (hIF : I ∈ F₀) {F₁ : List Addr} (hF1 : ∀ a, a ∈ F₁ ↔ a ∈ F₀ ∧ a ≠ I) (hIg : g I = none) (hst : StK 0 s.heap)
    (hR : ∀ i v h, i < items.length → P i v h → (∀ b o, b ∉ own → b ≠ I → s.heap.get? b = some o → h.get? b = some o) → Items (items.map emb) (own ++ F₀) i v h)
    (hasg : ∀ a ∈ items, ∀ mu, Asg c sc os mu target (emb a) ρ (ρ' a)) (hsub : ∀ a ∈ items, ∀ q ∈ ρ, q ∈ ρ' a)
    (ht : ∀ a ∈ items, ∀ mu, TrS c n sc (ρ' a) mu ifs (p a)) (he : ∀ a ∈ items, p a = true → ∀ mu, Ev c n sc (ρ' a) mu elt (e a)) (hz : ds.length + items.length ≤ 100000)
    (hdone : ∀ s', St c s₀ g own F₁ env ρ (some (D0, .lst (ds ++ (items.filter p).map e))) s' → (∀ b o, b ∉ own → b ≠ I → s.heap.get? b = some o → s'.heap.get? b = some o) → R (.ok .next) s') :
    ∃ Inv N, LastTurn c.prog c.w A elt target ifs (.ref I) (.ref D0) env R Inv ∧ Inv N s := by
  have hIo : I ∉ own := (S.live I hIF).1
  refine ⟨fun k s' => ∃ i, i ≤ items.length ∧ k = items.length + 1 - i ∧ St c s₀ g own F₀ env ρ (some (D0, .lst (ds ++ ((items.take i).filter p).map e))) s' ∧ StK i s'.heap ∧ ∀ b o, b ∉ own → b ≠ I → s.heap.get? b = some o → s'.heap.get? b = some o,
    items.length + 1, ?_, 0, Nat.zero_le _, rfl, by simpa using S, hst, fun _ _ _ _ e => e⟩
  rintro k s' ⟨i, hi, rfl, S', hst', hk'⟩
  have notc : ∀ a ∈ [I], ∀ v, ¬ s'.heap.IsCell a v := fun a m v q => by
    rw [List.mem_singleton.mp m] at q
    obtain ⟨o, e, hd⟩ := q
    obtain ⟨o', e', hd'⟩ := hob i _ hst'
    rw [e] at e'; cases e'
    exact hd' v hd
  by_cases hlt : i < items.length
  · refine W.item i s' _ _ hlt hst' fun v h1 tk1 hMd hk1 => ?_
    refine W.go i v _ _ _ hMd fun h2 hP hst2 hk2 => ?_
    have hk12 : ∀ b o, b ∉ [I] → s'.heap.get? b = some o → h2.get? b = some o := fun b o hb e => hk2 b o hb (hk1 b o hb e)
    have hkk : ∀ b o, b ∉ own → b ≠ I → s.heap.get? b = some o → h2.get? b = some o := fun b o hb hbI e => hk12 b o (fun m => hbI (List.mem_singleton.mp m)) (hk' b o hb hbI e)
    have S'' : St c s₀ g own F₀ env ρ (some (D0, .lst (ds ++ ((items.take i).filter p).map e))) { s' with heap := h2, toks := tk1 } := by
      refine S'.turn [I] ⟨h2, tk1, rfl⟩ hk12 (fun a m => by rw [List.mem_singleton.mp m]; exact hIo) (fun a m => by rw [List.mem_singleton.mp m]; exact hIg) (fun a m o _ => by rw [List.mem_singleton.mp m]; exact hIF)
        notc (fun a o _ m => m) (fun a m => ?_) fun a v q m => m
      obtain ⟨h1', o, e⟩ := S'.live a m
      by_cases q : a = I
      · subst q; exact ⟨hIo, let ⟨o, e, _⟩ := hob (i + 1) _ hst2; ⟨o, e⟩⟩
      · exact ⟨h1', o, hk12 a o (fun m => q (List.mem_singleton.mp m)) e⟩
    obtain ⟨d, hd, rv⟩ := hR i v h2 hlt hP hkk
    have ha : items[i]? = some items[i] := by simp [hlt]
    have hmem : items[i] ∈ items := List.getElem_mem hlt
    have hde : d = emb items[i] := by
      rw [List.getElem?_map, ha] at hd
      exact (Option.some.inj hd).symm
    subst hde
    have htk : (items.take (i + 1)).filter p = (items.take i).filter p ++ (if p items[i] then [items[i]] else []) := take_succ_filter p items i _ ha
    have next : ∀ s4, St c s₀ (hideO own h2) own F₀ env ρ (some (D0, .lst (ds ++ ((items.take (i + 1)).filter p).map e))) s4 → ∃ m, m < items.length + 1 - i ∧ ∃ i, i ≤ items.length ∧ m = items.length + 1 - i ∧
        St c s₀ g own F₀ env ρ (some (D0, .lst (ds ++ ((items.take i).filter p).map e))) s4 ∧ StK i s4.heap ∧ ∀ b o, b ∉ own → b ≠ I → s.heap.get? b = some o → s4.heap.get? b = some o := fun s4 S4 => by
      have hk := St.kept (s := { s' with heap := h2, toks := tk1 }) S4
      exact ⟨items.length + 1 - (i + 1), by omega, i + 1, hlt, rfl, S''.unhide S4, W.frame _ _ _ hst2 fun b hb o e => hk b o (hfp b hb) e, fun b o hb hbI e => hk b o hb (hkk b o hb hbI e)⟩
    refine wpAny_mono ((hasg _ hmem _).run A _ env s₀ _ own F₀ _ v hsc ev hos room.handled S''.hide rv) (fun _ s3 S3 => ?_) fun _ _ e => e
    refine wpAny_mono ((ht _ hmem _).run ok A _ env s₀ _ own F₀ s3 hsc ev room S3) (fun okb s4 q4 => ?_) fun _ _ e => e
    obtain ⟨k4, rfl⟩ := q4
    have S4 := S3.more k4
    cases hp : p items[i] with
    | false =>
      simp only [Bool.false_eq_true, if_false]
      refine next s4 ?_
      rw [htk, hp]
      simpa using S4.fewer (hsub _ hmem)
    | true =>
      simp only [if_true]
      refine wpAny_mono ((he _ hmem hp _).run ok A _ env s₀ _ own F₀ s4 hsc ev room S4) (fun x s5 q5 => ?_) fun _ _ e => e
      have S5 := S4.more q5.1
      refine st_append S5 q5.2 ?_ fun s6 S6 _ => next s6 ?_
      · rw [List.length_append, List.length_map]
        have h1 : ((items.take i).filter p).length ≤ (items.take i).length := List.length_filter_le _ _
        have h2 : (items.take i).length ≤ items.length := by rw [List.length_take]; omega
        omega
      · rw [htk, hp]
        have := S6.fewer (hsub _ hmem)
        simpa [List.append_assoc] using this
  · have hin : i = items.length := by omega
    subst hin
    rw [List.take_length] at S'
    refine W.done s' _ _ hst' fun h1 tk1 hk1 => ?_
    refine hdone _ ?_ fun b o hb hbI e => hk1 b o (fun m => hbI (List.mem_singleton.mp m)) (hk' b o hb hbI e)
    refine S'.turn [I] ⟨h1, tk1, rfl⟩ hk1 (fun a m => by rw [List.mem_singleton.mp m]; exact hIo) (fun a m => by rw [List.mem_singleton.mp m]; exact hIg) (fun a m o _ => by rw [List.mem_singleton.mp m]; exact hIF)
        notc (fun a o _ m => ((hF1 a).mp m).1) (fun a m => ?_) fun a v q m => (hF1 a).mpr ⟨m, fun e => notc a (by rw [e]; exact .head _) v q⟩
    obtain ⟨h1', o, e⟩ := S'.live a ((hF1 a).mp m).1
    exact ⟨h1', o, hk1 a o (fun q => ((hF1 a).mp m).2 (List.mem_singleton.mp q)) e⟩
end

end Mine

namespace Mine

noncomputable def freeNames (scope : Scope) : List Str := (scope.names.filter (·.2 == .free)).map (·.1)
noncomputable def closOf (scope : Scope) (env : Env) : List (Str × Addr) := ((freeNames scope).map fun x => (x, (env.cells.lookup x).getD 0)).reverse
noncomputable def relabelS (scope sc : Scope) : Scope :=
  { scope with names := scope.names.map fun (n, k) => if (k == .free && sc.kind == .function && sc.names.lookup n == some .cell) then (n, .cell) else (n, k) }
theorem relabel_eq (scope : Scope) (env : Env) : relabel scope env = relabelS scope env.scope := rfl

theorem clos_loop {env : Env} (f : Str × NameKind → List (Str × Addr) → Sem (ForInStep (List (Str × Addr))))
    (hf : ∀ name kind cs, f (name, kind) cs = if (kind == .free) = true then (do let a ← cellOf env name; pure (.yield ((name, a) :: cs))) else pure (.yield cs)) :
    ∀ (names : List (Str × NameKind)) (acc : List (Str × Addr)), (∀ x ∈ (names.filter (·.2 == .free)).map (·.1), ∃ k, env.cells.lookup x = some k) →
      forIn names acc f = pure ((((names.filter (·.2 == .free)).map (·.1)).map fun x => (x, (env.cells.lookup x).getD 0)).reverse ++ acc)
  | [], acc, _ => by rw [List.forIn_nil]; rfl
  | (n, k) :: r, acc, hr => by
    rw [List.forIn_cons, hf]
    by_cases hk : (k == NameKind.free) = true
    · simp only [List.filter_cons, hk, if_true, List.map_cons] at hr ⊢
      obtain ⟨a, ha⟩ := hr n (.head _)
      have e : cellOf env n = pure a := by unfold cellOf; rw [ha]
      rw [e, pure_bind, pure_bind]
      show forIn r ((n, a) :: acc) f = _
      rw [clos_loop f hf r _ fun x hx => hr x (.tail _ hx)]
      simp [ha]
    · simp only [List.filter_cons, hk, Bool.false_eq_true, if_false] at hr ⊢
      rw [pure_bind]
      exact clos_loop f hf r acc hr
theorem closureFor_of {scope : Scope} {env : Env} (h : ∀ x ∈ freeNames scope, ∃ k, env.cells.lookup x = some k) : closureFor scope env = pure (closOf scope env) := by
  unfold closureFor
  have e := clos_loop (env := env) (fun (x : Str × NameKind) (cs : List (Str × Addr)) => match x with | (name, kind) => if (kind == .free) = true then (do let a ← cellOf env name; pure (.yield ((name, a) :: cs))) else pure (.yield cs)) (fun _ _ _ => rfl) scope.names [] h
  rw [List.append_nil] at e
  show (_ >>= _) = _
  unfold closOf freeNames
  rw [← e]
  simp

theorem lookup_fn {f : Str → Addr} : ∀ (l : List Str) (x : Str), x ∈ l → (l.map fun x => (x, f x)).lookup x = some (f x)
  | z :: l, x, h => by
    rw [List.map_cons, List.lookup_cons]
    by_cases e : (x == z) = true
    · have hz : x = z := beq_iff_eq.mp e
      subst hz
      simp
    · rw [Bool.eq_false_iff.mpr e]
      rcases List.mem_cons.mp h with q | q
      · subst q; exact absurd (beq_self_eq_true _) e
      · exact lookup_fn l x q
theorem closOf_lookup {scope : Scope} {env : Env} {x : Str} {k : Addr} (hx : x ∈ freeNames scope) (hk : env.cells.lookup x = some k) : (closOf scope env).lookup x = some k := by
  unfold closOf
  rw [← List.map_reverse, lookup_fn _ x (List.mem_reverse.mpr hx), hk]; rfl
theorem closOf_mem {scope : Scope} {env : Env} (h : ∀ x ∈ freeNames scope, ∃ k, env.cells.lookup x = some k) {x : Str} {k : Addr} (hm : (x, k) ∈ closOf scope env) : x ∈ freeNames scope ∧ env.cells.lookup x = some k := by
  unfold closOf at hm
  obtain ⟨y, hy, e⟩ := List.mem_map.mp (List.mem_reverse.mp hm)
  cases e
  obtain ⟨k, hk⟩ := h _ hy
  exact ⟨hy, by rw [hk]; rfl⟩

theorem cellsFrom_app : ∀ (names : List (Str × NameKind)) (n : Nat) (acc : List (Str × Addr)), cellsFrom n names acc = cellsFrom n names [] ++ acc
  | [], _, _ => rfl
  | (x, k) :: r, n, acc => by
    unfold cellsFrom
    split
    · rw [cellsFrom_app r (n + 1) ((x, n) :: acc), cellsFrom_app r (n + 1) [(x, n)], List.append_assoc]; rfl
    · exact cellsFrom_app r n acc
theorem cellsFrom_names : ∀ (names : List (Str × NameKind)) (n : Nat) (p : Str × Addr), p ∈ cellsFrom n names [] → (p.1, NameKind.cell) ∈ names
  | [], _, _, h => nomatch h
  | (x, k) :: r, n, p, h => by
    unfold cellsFrom at h
    split at h
    · rename_i hk
      rw [cellsFrom_app] at h
      rcases List.mem_append.mp h with h | h
      · exact .tail _ (cellsFrom_names r _ p h)
      · rw [List.mem_singleton.mp h, ← beq_iff_eq.mp hk]; exact .head _
    · exact .tail _ (cellsFrom_names r _ p h)
theorem lookup_none_of {β : Type} : ∀ (l : List (Str × β)) (x : Str), (∀ p ∈ l, p.1 ≠ x) → l.lookup x = none
  | [], _, _ => rfl
  | (y, b) :: l, x, h => by
    rw [List.lookup_cons]
    have : (x == y) = false := beq_eq_false_iff_ne.mpr fun e => h _ (.head _) e.symm
    rw [this]; exact lookup_none_of l x fun p hp => h p (.tail _ hp)
theorem mem_of_lookup' {β : Type} : ∀ {l : List (Str × β)} {x : Str} {b : β}, l.lookup x = some b → (x, b) ∈ l
  | (y, b') :: l, x, b, h => by
    rw [List.lookup_cons] at h
    cases e : x == y with
    | true => rw [e] at h; cases h; rw [beq_iff_eq.mp e]; exact .head _
    | false => rw [e] at h; exact .tail _ (mem_of_lookup' h)
theorem lookup_append_none {l r : List (Str × Addr)} {x : Str} (h : l.lookup x = none) : (l ++ r).lookup x = r.lookup x := by
  rw [List.lookup_append, h]; rfl
theorem lookup_append_some {l r : List (Str × Addr)} {x : Str} {k : Addr} (h : l.lookup x = some k) : (l ++ r).lookup x = some k := by
  rw [List.lookup_append, h]; rfl

theorem relabel_free {sc : Scope} (hk : sc.kind = .function) : ∀ (names : List (Str × NameKind)) (x : Str), names.lookup x = some .free → sc.names.lookup x = some .cell →
    (names.map fun (n, k) => if (k == .free && sc.kind == .function && sc.names.lookup n == some .cell) then (n, NameKind.cell) else (n, k)).lookup x = some .cell
  | (n, k) :: r, x, h, hc => by
    rw [List.lookup_cons] at h
    show List.lookup x ((if (k == .free && sc.kind == .function && sc.names.lookup n == some .cell) = true then (n, NameKind.cell) else (n, k)) :: _) = _
    cases e : x == n with
    | true =>
      rw [e] at h
      cases h
      have : n = x := (beq_iff_eq.mp e).symm
      subst this
      simp [hk, hc, List.lookup_cons]
    | false =>
      rw [e] at h
      have ih := relabel_free hk r x h hc
      split <;> (rw [List.lookup_cons, e]; exact ih)
theorem relabel_cell : ∀ (sc : Scope) (names : List (Str × NameKind)) (x : Str), (names.map fun (n, k) => if (k == .free && sc.kind == .function && sc.names.lookup n == some .cell) then (n, NameKind.cell) else (n, k)).lookup x = some .cell →
    names.lookup x = some .cell ∨ (names.lookup x = some .free ∧ sc.names.lookup x = some .cell)
  | sc, (n, k) :: r, x, h => by
    replace h : List.lookup x ((if (k == .free && sc.kind == .function && sc.names.lookup n == some .cell) = true then (n, NameKind.cell) else (n, k)) :: _) = _ := h
    rw [List.lookup_cons]
    cases e : x == n with
    | true =>
      have hx : n = x := (beq_iff_eq.mp e).symm
      subst hx
      split at h
      · rename_i hc
        simp only [Bool.and_eq_true, beq_iff_eq] at hc
        exact .inr ⟨by rw [hc.1.1], hc.2⟩
      · rw [List.lookup_cons, e] at h
        cases h
        exact .inl rfl
    | false =>
      dsimp only
      refine relabel_cell sc r x ?_
      split at h <;> (rw [List.lookup_cons, e] at h; exact h)
theorem free_of_lookup {scope : Scope} {x : Str} (h : scope.names.lookup x = some .free) : x ∈ freeNames scope :=
  List.mem_map.mpr ⟨(x, .free), List.mem_filter.mpr ⟨mem_of_lookup' h, rfl⟩, rfl⟩

noncomputable def cEnv (scope : Scope) (C : Addr) (env : Env) : Env :=
  { scope := relabel scope env, locals := C, globals := env.globals, cells := cellsFrom (C + 1) scope.names (closOf scope env), qual := env.qual, func := none, code := env.code, frame := env.frame, builtins := env.builtins }

theorem newCompEnv {Mo : Model} {A : Around} {E : Value → Shared → Prop} {s : Shared} {scope : Scope} {env : Env} {Q : Env → Shared → Prop}
    (h : Q { cEnv scope s.heap.objs.size env with scope := scope } { s with heap := pushCells (s.heap.push { cls := .type "dict", data := .dict #[] }) scope.names }) :
    wpAny Mo A (newFunctionEnv scope env.globals (closOf scope env) [] env.qual none .none (some env)) Q E s := by
  simp only [newFunctionEnv, Option.isSome_some, if_true]
  refine wpAny_bind (wpAny_alloc ?_)
  refine wpAny_bind (wpAny_layCells _ (fun name kind cells => by cases hkc : kind == NameKind.cell <;> simp [hkc]) _ _ _ _ ?_)
  rw [show ({ s with heap := s.heap.push { cls := .type "dict", data := .dict #[] } } : Shared).heap.objs.size = s.heap.objs.size + 1 from Heap.size_push ..]
  exact wpAny_bind (wpAny_pure (wpAny_pure h))

/-- what a comprehension's names must be -/
structure Cap (scope sc : Scope) : Prop where
  kind : scope.kind = .function
  kindO : sc.kind = .function
  free : ((freeNames scope).all fun x => sc.names.lookup x == some .cell) = true
  apart : (scope.names.all fun p => p.2 != .free || scope.names.all fun q => q.2 != .cell || q.1 != p.1) = true
  locals : (scope.names.all fun p => p.2 != .local || scope.names.lookup p.1 == some .local) = true

section
variable {c : Cx} {n : Nat} {sc : Scope} {s₀ s : Shared} {g : Addr → Option Obj} {own F₀ : List Addr} {env : Env} {A : Around} {E : Value → Shared → Prop} {ρ ρc : Vars} {mu : Option (Addr × M)} {scope : Scope} {I : Addr}

theorem comp_enter {e : Expr} {RR : Value → Addr → Result → Shared → Prop} (cap : Cap scope sc) (hsc : env.scope = sc) (ev : EnvOk env) (S : St c s₀ g own (I :: F₀) env ρ mu s) (hIg : g I = none)
    (hρ : ∀ q ∈ ρc, q ∈ ρ ∧ scope.names.lookup q.1 = some .free)
    (h : ∀ D0 cenv own' s', cenv.scope = relabelS scope sc → EnvOk cenv → (∀ x, scope.names.lookup x = some .cell → OwnX cenv own' x) → St c s (fun b => if b = I then none else s.heap.get? b) own' (own ++ (I :: F₀)) cenv ρc (some (D0, .lst [])) s' → Keeps s s' →
      (∀ a ∈ own', s.heap.get? a = none) → codeAny (model c.prog c.w) A (.compStart e 0 (.ref I) (.ref D0) cenv) (RR (.ref D0) cenv.locals) s') :
    wpAny (model c.prog c.w) A (newList []) (fun acc s3 => wpAny (model c.prog c.w) A (newFunctionEnv scope env.globals (closOf scope env) [] env.qual none .none (some env)) (fun cenv s4 =>
      codeAny (model c.prog c.w) A (.compStart e 0 (.ref I) acc { cenv with scope := relabel scope env }) (RR acc cenv.locals) s4) E s3) E s := by
  have hfc : ∀ x ∈ freeNames scope, sc.names.lookup x = some .cell := fun x hx => by
    have := List.all_eq_true.mp cap.free x hx
    simpa using this
  have hfk : ∀ x ∈ freeNames scope, ∃ k, env.cells.lookup x = some k := fun x hx => ev.has x (by unfold Env.kindOf; rw [hsc]; exact hfc x hx)
  have hap : ∀ x, x ∈ freeNames scope → ∀ p ∈ cellsFrom (s.heap.objs.size + 1 + 1) scope.names [], p.1 ≠ x := fun x hx p hp q => by
    obtain ⟨y, hy, rfl⟩ := List.mem_map.mp hx
    obtain ⟨hy1, hy2⟩ := List.mem_filter.mp hy
    have h1 := List.all_eq_true.mp cap.apart y hy1
    simp only [beq_iff_eq] at hy2
    rw [hy2] at h1
    have h3 : (scope.names.all fun q => q.2 != NameKind.cell || q.1 != y.1) = true := by
      rcases Bool.or_eq_true_iff.mp h1 with h1 | h1
      · cases h1
      · exact h1
    have h2 := List.all_eq_true.mp h3 _ (cellsFrom_names _ _ p hp)
    simp [q] at h2
  refine wpAny_newObj_type (newCompEnv ?_)
  dsimp only
  generalize hH2 : s.heap.push { cls := .type "list", dict := none, data := .seq ([] : List Value).toArray } = H2
  have hC : H2.objs.size = s.heap.objs.size + 1 := by rw [← hH2, Heap.size_push]
  have hD2 : H2.get? s.heap.objs.size = some (lstO [] 0) := by rw [← hH2]; exact Heap.get?_push_size _ rfl
  have hk2 : ∀ b o, s.heap.get? b = some o → H2.get? b = some o := fun b o e => by rw [← hH2]; exact Heap.get?_push_of_some _ e
  generalize hH3 : H2.push { cls := .type "dict", data := .dict #[] } = H3
  have hC3 : H3.objs.size = s.heap.objs.size + 1 + 1 := by rw [← hH3, Heap.size_push, hC]
  have hk3 : ∀ b o, H2.get? b = some o → H3.get? b = some o := fun b o e => by rw [← hH3]; exact Heap.get?_push_of_some _ e
  have hNs : H3.Ns H2.objs.size fun _ => none := by rw [← hH3]; exact Heap.Ns.new _ _
  have hkp := pushCells_keeps scope.names H3
  have okc := cellsFrom_ok scope.names H3 (s.heap.objs.size + 1 + 1) [] ⟨fun _ _ hm => (nomatch hm), List.Pairwise.nil⟩ (by rw [hC3]; exact Nat.le_refl _)
  rw [hC3] at okc
  have keepall : ∀ b o, s.heap.get? b = some o → (pushCells H3 scope.names).get? b = some o := fun b o e => hkp b o (hk3 b o (hk2 b o e))
  have fresh0 : ∀ a, s.heap.objs.size ≤ a → s.heap.get? a = none := fun a ha => by
    cases e : s.heap.get? a with
    | none => rfl
    | some o => exact absurd (Heap.lt_size e) (Nat.not_lt.mpr ha)
  have cells_eq : (cEnv scope H2.objs.size env).cells = cellsFrom (s.heap.objs.size + 1 + 1) scope.names [] ++ closOf scope env := by
    show cellsFrom (H2.objs.size + 1) scope.names (closOf scope env) = _
    rw [hC, cellsFrom_app]
  refine h s.heap.objs.size (cEnv scope H2.objs.size env) (H2.objs.size :: s.heap.objs.size :: (cellsFrom (s.heap.objs.size + 1 + 1) scope.names []).map (·.2)) _ ?_ ?_ ?_ ?_ ?_ ?_
  · show relabel scope env = _
    rw [relabel_eq, hsc]
  · refine ⟨cap.kind, ev.globals, ev.builtins, fun x hx => ?_⟩
    rw [cells_eq]
    have hx' : (relabelS scope sc).names.lookup x = some .cell := by
      have : (relabel scope env).names.lookup x = some .cell := hx
      rw [relabel_eq, hsc] at this
      exact this
    rcases relabel_cell sc scope.names x hx' with q | ⟨q, _⟩
    · obtain ⟨k, e⟩ := Option.isSome_iff_exists.mp (cellsFrom_some (x := x) scope.names (s.heap.objs.size + 1 + 1) [] (.inl q))
      exact ⟨k, lookup_append_some e⟩
    · obtain ⟨k, e⟩ := hfk x (free_of_lookup q)
      exact ⟨k, by rw [lookup_append_none (lookup_none_of _ _ (hap x (free_of_lookup q)))]; exact closOf_lookup (free_of_lookup q) e⟩
  · intro x hx
    obtain ⟨k, e⟩ := Option.isSome_iff_exists.mp (cellsFrom_some (x := x) scope.names (s.heap.objs.size + 1 + 1) [] (.inl hx))
    have hm := mem_of_lookup e
    refine ⟨k, by rw [cells_eq]; exact lookup_append_some e, List.mem_cons_of_mem _ (List.mem_cons_of_mem _ (List.mem_map_of_mem (f := (·.2)) hm)), fun y hy => ?_⟩
    rw [cells_eq] at hy
    rcases List.mem_append.mp (mem_of_lookup hy) with q | q
    · exact name_of_addr okc.apart q hm
    · obtain ⟨q1, q2⟩ := closOf_mem hfk q
      obtain ⟨v, i⟩ := S.cells y k (by unfold Env.kindOf; rw [hsc]; exact hfc y q1) q2
      have := i.lt
      exact absurd this (Nat.not_lt.mpr (by have := (okc.empty x k hm).2; omega))
  · have owns : ∀ a ∈ H2.objs.size :: s.heap.objs.size :: (cellsFrom (s.heap.objs.size + 1 + 1) scope.names []).map (·.2), s.heap.objs.size ≤ a ∧ ∃ o, (pushCells H3 scope.names).get? a = some o := fun a ha => by
      rcases List.mem_cons.mp ha with rfl | ha
      · refine ⟨by omega, ?_⟩
        obtain ⟨o, _, _, e, _⟩ := hNs
        exact ⟨o, hkp _ _ e⟩
      · rcases List.mem_cons.mp ha with rfl | ha
        · exact ⟨Nat.le_refl _, _, hkp _ _ (hk3 _ _ hD2)⟩
        · obtain ⟨p, hp, rfl⟩ := List.mem_map.mp ha
          obtain ⟨⟨o, e, _⟩, h2⟩ := okc.empty p.1 p.2 hp
          exact ⟨by omega, o, e⟩
    refine ⟨⟨_, _, rfl⟩, fun b o e => ?_, fun b o e => ?_, fun a ha => ?_, fun a ha => ?_, .head _, fun a ha => (owns a ha).2, ⟨_, hNs.keeps hkp, fun x d hq => ?_⟩, fun x k hx hk => ?_, fun a md e => ?_⟩
    · have hb : b ≠ I := fun q => by have := S.base _ _ e; rw [q, hIg] at this; cases this
      simp only [if_neg hb]; exact S.b0 _ _ e
    · split at e
      · cases e
      · exact keepall b o e
    · split
      · rfl
      · exact fresh0 a (owns a ha).1
    · obtain ⟨o, e⟩ := S.lives a ha
      refine ⟨fun m => ?_, o, keepall a o e⟩
      exact absurd (Heap.lt_size e) (Nat.not_lt.mpr (owns a m).1)
    · obtain ⟨hq1, hq2⟩ := hρ _ hq
      obtain ⟨m, hn, hv⟩ := S.vars
      obtain ⟨v, r, z⟩ := hv x d hq1
      have hxf := free_of_lookup hq2
      rcases z with ⟨z, _⟩ | ⟨z, k, z1, z2, z3⟩
      · exfalso
        have : env.kindOf x = some .cell := by unfold Env.kindOf; rw [hsc]; exact hfc x hxf
        rw [z] at this; cases this
      · refine ⟨v, r.move (Le.of_all keepall) fun a o e m => ?_, .inr ⟨?_, k, ?_, List.mem_append_right _ z2, z3.keeps keepall⟩⟩
        · rcases List.mem_append.mp m with m | m
          · exact absurd (Heap.lt_size e) (Nat.not_lt.mpr (owns a m).1)
          · exact m
        · show (relabel scope env).names.lookup x = some .cell
          rw [relabel_eq, hsc]
          exact relabel_free cap.kindO scope.names x hq2 (hfc x hxf)
        · rw [cells_eq, lookup_append_none (lookup_none_of _ _ (hap x hxf))]
          exact closOf_lookup hxf z1
    · rw [cells_eq] at hk
      rcases List.mem_append.mp (mem_of_lookup hk) with q | q
      · exact ⟨none, (okc.empty x k q).1⟩
      · obtain ⟨q1, q2⟩ := closOf_mem hfk q
        obtain ⟨v, i⟩ := S.cells x k (by unfold Env.kindOf; rw [hsc]; exact hfc x q1) q2
        exact ⟨v, i.keeps keepall⟩
    · cases e
      refine ⟨List.mem_cons_of_mem _ (.head _), fun q => ?_, [], 0, hkp _ _ (hk3 _ _ hD2), .nil⟩
      have : s.heap.objs.size = H2.objs.size := q
      rw [hC] at this; omega
  · exact ⟨_, _, rfl, keepall⟩
  · intro a ha
    refine fresh0 a ?_
    rcases List.mem_cons.mp ha with rfl | ha
    · omega
    · rcases List.mem_cons.mp ha with rfl | ha
      · exact Nat.le_refl _
      · obtain ⟨p, hp, rfl⟩ := List.mem_map.mp ha
        have := (okc.empty p.1 p.2 hp).2
        omega
end

end Mine

namespace Mine

/-- a comprehension's loop hands out `out` -/
structure CompRun (c : Cx) (n : Nat) (sc : Scope) (cells : List Str) (target : Expr) (R : List Addr → Nat → Value → Heap → Prop) (len : Nat) (e : Expr) (ρ : Vars) (out : List D) : Prop where
  mk ::
  run : 
  c.Ok → ∀ (A : Around) (Rr : Result → Shared → Prop) (env : Env) (s₀ : Shared) (g : Addr → Option Obj) (own F₀ F₁ : List Addr) (s : Shared) (D0 I : Addr) (fp : List Addr) (P Md : Nat → Value → Heap → Prop) (StK : Nat → Heap → Prop),
    env.scope = sc → EnvOk env → Room A n → (∀ x ∈ cells, OwnX env own x) → KTurns c.prog c.w A target I fp [I] len P Md StK → (∀ i h, StK i h → ∃ o, h.get? I = some o ∧ ∀ v, o.data ≠ .cell v) → (∀ b ∈ fp, b ∉ own) →
    St c s₀ g own F₀ env ρ (some (D0, .lst [])) s → I ∈ F₀ → (∀ a, a ∈ F₁ ↔ a ∈ F₀ ∧ a ≠ I) → g I = none → StK 0 s.heap →
    (∀ i v h, i < len → P i v h → (∀ b o, b ∉ own → b ≠ I → s.heap.get? b = some o → h.get? b = some o) → R (own ++ F₀) i v h) →
    (∀ s', St c s₀ g own F₁ env ρ (some (D0, .lst out)) s' → (∀ b o, b ∉ own → b ≠ I → s.heap.get? b = some o → s'.heap.get? b = some o) → Rr (.ok .next) s') →
    codeAny (model c.prog c.w) A (.compLoop e 0 (.ref I) (.ref D0) env) Rr s

section
variable {c : Cx} {n : Nat} {sc : Scope}

theorem CompRun.one {α : Type} {elt target iter : Expr} {ifs : List Expr} {scope : Scope} {pos : Pos} {items : List α} {emb : α → D} {p : α → Bool} {e : α → D} {ρ : Vars} {ρ' : α → Vars} {cells : List Str}
    (hasg : ∀ a ∈ items, ∀ mu, Asg c sc (fun x => cells.contains x) mu target (emb a) ρ (ρ' a)) (hsub : ∀ a ∈ items, ∀ q ∈ ρ, q ∈ ρ' a)
    (ht : ∀ a ∈ items, ∀ mu, TrS c n sc (ρ' a) mu ifs (p a)) (he : ∀ a ∈ items, p a = true → ∀ mu, Ev c n sc (ρ' a) mu elt (e a)) (hz : items.length ≤ 100000) :
    CompRun c n sc cells target (Items (items.map emb)) items.length (.ListComp elt [⟨target, iter, ifs, 0⟩] scope pos) ρ ((items.filter p).map e) := .mk <|
  fun ok A Rr env s₀ g own F₀ F₁ s D0 I fp P Md StK hsc ev room hcells W hob hfp S hIF hF1 hIg hst hR hdone => by
    obtain ⟨Inv, N, ht, h0⟩ := last_run (R := Rr) (ds := []) (F₁ := F₁) (os := fun x => cells.contains x) ok hsc ev room (fun x hx _ => hcells x (by simpa using hx)) W hob hfp S hIF hF1 hIg hst hR hasg hsub ht he (by simpa using hz) (fun s' S' k => hdone s' (by simpa using S') k)
    exact loop_last0 Inv ht N h0

theorem CompRun.two {α β : Type} {elt target target1 iter iter1 : Expr} {ifs : List Expr} {scope : Scope} {pos : Pos} {items : List α} {emb : α → D} {d1 : α → D} {items1 : α → List β} {emb1 : β → D} {p : α → β → Bool} {e : α → β → D} {ρ : Vars} {ρ1 : α → Vars} {ρ2 : α → β → Vars}
    (hasg : ∀ a ∈ items, ∀ mu, Asg c sc (fun _ => false) mu target (emb a) ρ (ρ1 a)) (hsub : ∀ a ∈ items, ∀ q ∈ ρ, q ∈ ρ1 a)
    (hit : ∀ a ∈ items, ∀ mu, Ev c n sc (ρ1 a) mu iter1 (d1 a)) (hI : ∀ a ∈ items, IterV target1 (d1 a) (items1 a).length (Items ((items1 a).map emb1)))
    (hasg1 : ∀ a ∈ items, ∀ b ∈ items1 a, ∀ mu, Asg c sc (fun _ => false) mu target1 (emb1 b) (ρ1 a) (ρ2 a b)) (hsub1 : ∀ a ∈ items, ∀ b ∈ items1 a, ∀ q ∈ ρ1 a, q ∈ ρ2 a b)
    (ht : ∀ a ∈ items, ∀ b ∈ items1 a, ∀ mu, TrS c n sc (ρ2 a b) mu ifs (p a b)) (he : ∀ a ∈ items, ∀ b ∈ items1 a, p a b = true → ∀ mu, Ev c n sc (ρ2 a b) mu elt (e a b))
    (hz : ∀ l, l ≤ items.length → ((items.take l).flatMap fun a => ((items1 a).filter (p a)).map (e a)).length + 1000 ≤ 100000) (hz1 : ∀ a ∈ items, (items1 a).length ≤ 1000) (hs : ∀ env x, foldedSetIterable iter1 env x = pure x := by intro _ _; rfl) :
    CompRun c n sc [] target (Items (items.map emb)) items.length (.ListComp elt [⟨target, iter, [], 0⟩, ⟨target1, iter1, ifs, 0⟩] scope pos) ρ (items.flatMap fun a => ((items1 a).filter (p a)).map (e a)) := .mk <|
  fun ok A Rr env s₀ g own F₀ F₁ s D0 I fp P Md StK hsc ev room hcells W hob hfp S hIF hF1 hIg hst hR hdone => by
    have hIo : I ∉ own := (S.live I hIF).1
    refine loop_first2 (g1 := ⟨target1, iter1, ifs, 0⟩) rfl (fun k s' => ∃ i, i ≤ items.length ∧ k = items.length + 1 - i ∧ St c s₀ g own F₀ env ρ (some (D0, .lst ((items.take i).flatMap fun a => ((items1 a).filter (p a)).map (e a)))) s' ∧ StK i s'.heap ∧
      ∀ b o, b ∉ own → b ≠ I → s.heap.get? b = some o → s'.heap.get? b = some o) ?_ (hs env) (items.length + 1) ⟨0, Nat.zero_le _, rfl, by simpa using S, hst, fun _ _ _ _ e => e⟩
    rintro k s' ⟨i, hi, rfl, S', hst', hk'⟩
    have notc : ∀ a ∈ [I], ∀ v, ¬ s'.heap.IsCell a v := fun a m v q => by
      rw [List.mem_singleton.mp m] at q
      obtain ⟨o, e, hd⟩ := q
      obtain ⟨o', e', hd'⟩ := hob i _ hst'
      rw [e] at e'; cases e'
      exact hd' v hd
    by_cases hlt : i < items.length
    · refine W.item i s' _ _ hlt hst' fun v h1 tk1 hMd hk1 => ?_
      refine W.go i v _ _ _ hMd fun h2 hP hst2 hk2 => ?_
      have hk12 : ∀ b o, b ∉ [I] → s'.heap.get? b = some o → h2.get? b = some o := fun b o hb e => hk2 b o hb (hk1 b o hb e)
      have hkk : ∀ b o, b ∉ own → b ≠ I → s.heap.get? b = some o → h2.get? b = some o := fun b o hb hbI e => hk12 b o (fun m => hbI (List.mem_singleton.mp m)) (hk' b o hb hbI e)
      have S'' : St c s₀ g own F₀ env ρ (some (D0, .lst ((items.take i).flatMap fun a => ((items1 a).filter (p a)).map (e a)))) { s' with heap := h2, toks := tk1 } := by
        refine S'.turn [I] ⟨h2, tk1, rfl⟩ hk12 (fun a m => by rw [List.mem_singleton.mp m]; exact hIo) (fun a m => by rw [List.mem_singleton.mp m]; exact hIg) (fun a m o _ => by rw [List.mem_singleton.mp m]; exact hIF)
          notc (fun a o _ m => m) (fun a m => ?_) fun a v q m => m
        obtain ⟨h1', o, e⟩ := S'.live a m
        by_cases q : a = I
        · subst q; exact ⟨hIo, let ⟨o, e, _⟩ := hob (i + 1) _ hst2; ⟨o, e⟩⟩
        · exact ⟨h1', o, hk12 a o (fun m => q (List.mem_singleton.mp m)) e⟩
      obtain ⟨d, hd, rv⟩ := hR i v h2 hlt hP hkk
      have ha : items[i]? = some items[i] := by simp [hlt]
      have hmem : items[i] ∈ items := List.getElem_mem hlt
      have hde : d = emb items[i] := by
        rw [List.getElem?_map, ha] at hd
        exact (Option.some.inj hd).symm
      subst hde
      have htk : (items.take (i + 1)).flatMap (fun a => ((items1 a).filter (p a)).map (e a)) = (items.take i).flatMap (fun a => ((items1 a).filter (p a)).map (e a)) ++ ((items1 items[i]).filter (p items[i])).map (e items[i]) := by
        rw [List.take_add_one, ha, List.flatMap_append]; simp
      refine wpAny_mono ((hasg _ hmem _).run A _ env s₀ _ own F₀ _ v hsc ev (fun _ h => nomatch h) room.handled S''.hide rv) (fun _ s3 S3 => ?_) fun _ _ e => e
      refine wpAny_mono ((hit _ hmem _).run ok A _ env s₀ _ own F₀ s3 hsc ev room S3) (fun x s4 q4 => ?_) fun _ _ e => e
      have S4 := S3.more q4.1
      refine wpAny_mono ((hI _ hmem).run c.prog c.w A _ (own ++ F₀) s4 x room.handled S4.lives q4.2) (fun it' s5 q5 => ?_) fun _ _ e => e
      obtain ⟨k5, I1, fp1, P1, Md1, StK1, rfl, W1, hst1, hfpF1, hfpo1, hIn1, hob1, hself1, hR1⟩ := q5
      have S5 : St c s₀ (hideO own h2) own (I1 :: F₀) env (ρ1 items[i]) (some (D0, .lst ((items.take i).flatMap fun a => ((items1 a).filter (p a)).map (e a)))) s5 := S4.withIt k5 hIn1 (let ⟨o, e, _⟩ := hob1 0 _ hst1; ⟨o, e⟩)
      have hI1F : I1 ∉ F₀ := fun m => by obtain ⟨_, o, e⟩ := S4.live I1 m; rw [hIn1] at e; cases e
      have hg1 : hideO own h2 I1 = none := by
        cases e : hideO own h2 I1 with
        | none => rfl
        | some o => have := S4.keep _ _ e; rw [hIn1] at this; cases this
      have fin : codeAny (model c.prog c.w) A (.compLoop (.ListComp elt [⟨target, iter, [], 0⟩, ⟨target1, iter1, ifs, 0⟩] scope pos) 1 (.ref I1) (.ref D0) env) (fun r s' => r = .ok .next ∧ ∃ m, m < items.length + 1 - i ∧ ∃ i, i ≤ items.length ∧ m = items.length + 1 - i ∧
          St c s₀ g own F₀ env ρ (some (D0, .lst ((items.take i).flatMap fun a => ((items1 a).filter (p a)).map (e a)))) s' ∧ StK i s'.heap ∧ ∀ b o, b ∉ own → b ≠ I → s.heap.get? b = some o → s'.heap.get? b = some o) s5 := by
        refine Exists.elim (last_run (R := fun r s' => r = .ok .next ∧ ∃ m, m < items.length + 1 - i ∧ ∃ i, i ≤ items.length ∧ m = items.length + 1 - i ∧
            St c s₀ g own F₀ env ρ (some (D0, .lst ((items.take i).flatMap fun a => ((items1 a).filter (p a)).map (e a)))) s' ∧ StK i s'.heap ∧ ∀ b o, b ∉ own → b ≠ I → s.heap.get? b = some o → s'.heap.get? b = some o)
          (F₁ := F₀) (os := fun _ => false) ok hsc ev room (fun _ h => nomatch h) W1 hob1 (fun b hb m => hfpF1 b hb (List.mem_append_left _ m)) S5 (.head _) (fun a => ⟨fun m => ⟨List.mem_cons_of_mem _ m, fun q => hI1F (q ▸ m)⟩, fun ⟨m, q⟩ => (List.mem_cons.mp m).resolve_left q⟩) hg1 hst1
          (fun j v h hj hP1 hkj => hR1 _ j v h (fun a m => ?_) hj hP1 fun b o hb e => hkj b o (fun m => hb (List.mem_cons_of_mem _ (List.mem_append_left _ m))) (fun q => hb (by rw [q]; exact .head _)) e)
          (hasg1 _ hmem) (hsub1 _ hmem) (ht _ hmem) (he _ hmem) (by have := hz i (Nat.le_of_lt hlt); have := hz1 _ hmem; omega) (fun s6 S6 k6 => ?_)) fun Inv hx => Exists.elim hx fun N hx2 => loop_last1 Inv hx2.1 N hx2.2
        · refine .inl ?_
          rcases List.mem_append.mp m with m | m
          · exact List.mem_cons_of_mem _ (List.mem_append_left _ m)
          · rcases List.mem_cons.mp m with rfl | m
            · exact .head _
            · exact List.mem_cons_of_mem _ (List.mem_append_right _ m)
        · have hk6 := St.kept (s := { s' with heap := h2, toks := tk1 }) S6
          rw [← htk] at S6
          exact ⟨rfl, items.length + 1 - (i + 1), by omega, i + 1, hlt, rfl, S''.unhide (S6.fewer (hsub _ hmem)), W.frame _ _ _ hst2 fun b hb o e => hk6 b o (hfp b hb) e, fun b o hb hbI e => hk6 b o hb (hkk b o hb hbI e)⟩
      exact start1 (fun Q E hQ => hself1 0 s5 Q E hst1 hQ) fin
    · have hin : i = items.length := by omega
      subst hin
      rw [List.take_length] at S'
      refine W.done s' _ _ hst' fun h1 tk1 hk1 => ?_
      refine hdone _ ?_ fun b o hb hbI e => hk1 b o (fun m => hbI (List.mem_singleton.mp m)) (hk' b o hb hbI e)
      refine S'.turn [I] ⟨h1, tk1, rfl⟩ hk1 (fun a m => by rw [List.mem_singleton.mp m]; exact hIo) (fun a m => by rw [List.mem_singleton.mp m]; exact hIg) (fun a m o _ => by rw [List.mem_singleton.mp m]; exact hIF)
          notc (fun a o _ m => ((hF1 a).mp m).1) (fun a m => ?_) fun a v q m => (hF1 a).mpr ⟨m, fun e => notc a (by rw [e]; exact .head _) v q⟩
      obtain ⟨h1', o, e⟩ := S'.live a ((hF1 a).mp m).1
      exact ⟨h1', o, hk1 a o (fun q => ((hF1 a).mp m).2 (List.mem_singleton.mp q)) e⟩
end

section
variable {c : Cx} {n : Nat} {sc : Scope} {s₀ s : Shared} {g : Addr → Option Obj} {own F₀ : List Addr} {env : Env} {A : Around} {E : Value → Shared → Prop} {ρ ρc : Vars} {mu : Option (Addr × M)} {scope : Scope}

noncomputable def cellNames (scope : Scope) : List Str := (scope.names.filter (·.2 == .cell)).map (·.1)

theorem comp_main {elt : Expr} {g0 : Comprehension} {gs : List Comprehension} {p0 pos : Pos} {use : Option (Value → Sem Unit)} {Q : Value → Shared → Prop} {d : D} {len : Nat} {R : List Addr → Nat → Value → Heap → Prop} {out : List D}
    (ok : c.Ok) (hsc : env.scope = sc) (ev : EnvOk env) (room : Room A n) (S : St c s₀ g own F₀ env ρ mu s) (cap : Cap scope sc) (h0 : g0.is_async = 0) (hs : ∀ env x, foldedSetIterable g0.iter env x = pure x)
    (hcell : (cellNames scope).all (fun x => scope.names.lookup x == some .cell) = true)
    (hit : Ev c n sc ρ mu g0.iter d) (hI : IterV g0.target d len R) (hρ : ∀ q ∈ ρc, q ∈ ρ ∧ scope.names.lookup q.1 = some .free)
    (run : CompRun c n (relabelS scope sc) (cellNames scope) g0.target R len (.ListComp elt (g0 :: gs) scope pos) ρc out)
    (hfin : ∀ D0 C m s', Keeps s s' → s'.heap.Ns C m → s.heap.get? C = none → Rep (own ++ (C :: F₀)) s'.heap (.ref D0) (.lst out) → compPost (model c.prog c.w) A E use Q (.ref D0) C (.ok .next) s') :
    wpAny (model c.prog c.w) A (comprehension (.ListComp elt (g0 :: gs) scope pos) scope env p0 (newList []) false (eval g0.iter env) use) Q E s := by
  have hfk : ∀ x ∈ freeNames scope, ∃ k, env.cells.lookup x = some k := fun x hx => ev.has x (by
    unfold Env.kindOf; rw [hsc]
    have := List.all_eq_true.mp cap.free x hx
    simpa using this)
  refine wpAny_comprehension_free (cl := closOf scope env) rfl (hs env) (closureFor_of hfk) cap.kind (fun x hx hl => ?_) ?_
  · have := List.all_eq_true.mp cap.locals x hx
    rw [hl] at this
    simpa using this
  refine wpAny_mono (hit.run ok A E env s₀ g own F₀ s hsc ev room S) (fun xv s1 q1 => ?_) fun _ _ e => e
  have S1 := S.more q1.1
  refine wpAny_mono (hI.run c.prog c.w A E (own ++ F₀) s1 xv room.handled S1.lives q1.2) (fun it s2 q2 => ?_) fun _ _ e => e
  obtain ⟨k2, I, fp, P, Md, StK, rfl, W, hst, hfpF, hfpo, hIn, hob, hself, hR⟩ := q2
  have S2 : St c s₀ g own (I :: F₀) env ρ mu s2 := S1.withIt k2 hIn (let ⟨o, e, _⟩ := hob 0 _ hst; ⟨o, e⟩)
  have hIg : g I = none := by
    cases e : g I with
    | none => rfl
    | some o => have := S1.keep _ _ e; rw [hIn] at this; cases this
  have hIF : I ∉ own ++ F₀ := fun m => by obtain ⟨o, e⟩ := S1.lives I m; rw [hIn] at e; cases e
  refine comp_enter (RR := fun acc C => compPost (model c.prog c.w) A E use Q acc C) cap hsc ev S2 hIg hρ fun D0 cenv own' s3 hcs hce hox S3 k3 hnew => ?_
  have hfresh : ∀ a ∈ own', a ∉ own ++ (I :: F₀) := fun a ha m => by obtain ⟨o, e⟩ := S2.lives a m; rw [hnew a ha] at e; cases e
  have hst3 : StK 0 s3.heap := W.frame 0 _ _ hst fun b _ o e => kpLe k3 b o e
  refine start0 h0 (fun Q E hQ => hself 0 s3 Q E hst3 hQ) ?_
  refine run.run ok A _ cenv s2 _ own' (own ++ (I :: F₀)) (own ++ F₀) s3 D0 I fp P Md StK hcs hce room (fun x hx => hox x ?_) W hob (fun b hb m => ?_) S3 (List.mem_append_right _ (.head _)) (fun a => ⟨fun m => ⟨?_, fun q => hIF (q ▸ m)⟩, fun ⟨m, q⟩ => ?_⟩) (by simp) hst3
    (fun i v h hi hP hk => hR _ i v h (fun a m => ?_) hi hP fun b o hb e => ?_) fun s4 S4 k4 => ?_
  · have := List.all_eq_true.mp hcell x hx
    simpa using this
  · obtain ⟨o, e⟩ := hfpo b hb
    rw [hnew b m] at e; cases e
  · rcases List.mem_append.mp m with m | m
    · exact List.mem_append_left _ m
    · exact List.mem_append_right _ (List.mem_cons_of_mem _ m)
  · rcases List.mem_append.mp m with m | m
    · exact List.mem_append_left _ m
    · exact List.mem_append_right _ ((List.mem_cons.mp m).resolve_left q)
  · rcases List.mem_append.mp m with m | m
    · exact .inr (hnew a m)
    · rcases List.mem_append.mp m with m | m
      · exact .inl (List.mem_cons_of_mem _ (List.mem_append_left _ m))
      · rcases List.mem_cons.mp m with rfl | m
        · exact .inl (.head _)
        · exact .inl (List.mem_cons_of_mem _ (List.mem_append_right _ m))
  · exact hk b o (fun m => by rw [hnew b m] at e; cases e) (fun q => hb (by rw [q]; exact .head _)) (kpLe k3 b o e)
  · have keep : Keeps s s4 := by
      refine kpOf (((kpSame q1.1).trans (kpSame k2)).trans S4.same) fun b o e => ?_
      have e1 := kpLe q1.1 b o e
      have hbI : b ≠ I := fun q => by rw [q, hIn] at e1; cases e1
      exact S4.keep b o (by simp only [if_neg hbI]; exact kpLe k2 b o e1)
    obtain ⟨m, hn, _⟩ := S4.vars
    obtain ⟨hD1, hD2, vs, nn, ho, rl⟩ := S4.mtd D0 _ rfl
    have hCn : s2.heap.get? cenv.locals = none := hnew _ S4.loc
    refine hfin D0 cenv.locals m s4 keep hn ?_ (.lst (fun q => ?_) ho (rl.less fun a q => ?_))
    · cases e : s.heap.get? cenv.locals with
      | none => rfl
      | some o => have := kpLe k2 _ _ (kpLe q1.1 _ _ e); rw [hCn] at this; cases this
    · rcases List.mem_append.mp q with q | q
      · exact hfresh D0 hD1 (List.mem_append_left _ q)
      · rcases List.mem_cons.mp q with q | q
        · exact hD2 q
        · exact hfresh D0 hD1 (List.mem_append_right _ (List.mem_cons_of_mem _ q))
    · rcases List.mem_append.mp q with q | q
      · exact List.mem_append_right _ (List.mem_append_left _ q)
      · rcases List.mem_cons.mp q with rfl | q
        · exact List.mem_append_left _ S4.loc
        · exact List.mem_append_right _ (List.mem_append_right _ q)

theorem Ev.comp {elt : Expr} {g0 : Comprehension} {gs : List Comprehension} {pos : Pos} {d : D} {len : Nat} {R : List Addr → Nat → Value → Heap → Prop} {out : List D} (cap : Cap scope sc) (h0 : g0.is_async = 0)
    (hit : Ev c n sc ρ mu g0.iter d) (hI : IterV g0.target d len R) (hρ : ∀ q ∈ ρc, q ∈ ρ ∧ scope.names.lookup q.1 = some .free)
    (run : CompRun c n (relabelS scope sc) (cellNames scope) g0.target R len (.ListComp elt (g0 :: gs) scope pos) ρc out)
    (hs : ∀ env x, foldedSetIterable g0.iter env x = pure x := by intro _ _; rfl) (hcell : (cellNames scope).all (fun x => scope.names.lookup x == some .cell) = true := by decide) (hfa : firstAsync (g0 :: gs) = false := by rfl) :
    Ev c n sc ρ mu (.ListComp elt (g0 :: gs) scope pos) (.lst out) := .mk fun ok A E env s₀ g own F₀ s hsc ev room S => by
  obtain ⟨t, i, ifs, a⟩ := g0
  rw [eval_ListComp, hfa]
  refine comp_main (use := none) ok hsc ev room S cap h0 hs hcell hit hI hρ run fun D0 C m s' k hn hC r => ?_
  refine ⟨m, hn, fun h' hs' => ⟨kpOf ((kpSame k).trans ⟨h', s'.toks, rfl⟩) fun b o e => (hs'.2 b (fun q => by rw [q, hC] at e; cases e)).trans (kpLe k b o e), ?_⟩⟩
  refine (r.le (h' := h') fun b o hb e => (hs'.2 b (fun q => hb (List.mem_append_right _ (by rw [q]; exact .head _)))).trans e).less fun a q => ?_
  rcases List.mem_append.mp q with q | q
  · exact List.mem_append_left _ q
  · exact List.mem_append_right _ (List.mem_cons_of_mem _ q)

/-- a name set to a comprehension: the store comes first -/
theorem ex_comp {elt : Expr} {g0 : Comprehension} {gs : List Comprehension} {x : Str} {p cpos pos : Pos} {d : D} {len : Nat} {R : List Addr → Nat → Value → Heap → Prop} {out : List D} {ρ' : Vars} {Q : Flow → Shared → Prop} {rest : List Stmt}
    (f : Fm c n sc env own A) (S : St c s₀ g own F₀ env ρ mu s) (cap : Cap scope sc) (h0 : g0.is_async = 0)
    (hit : Ev c n sc ρ mu g0.iter d) (hI : IterV g0.target d len R) (hρ : ∀ q ∈ ρc, q ∈ ρ ∧ scope.names.lookup q.1 = some .free)
    (run : CompRun c n (relabelS scope sc) (cellNames scope) g0.target R len (.ListComp elt (g0 :: gs) scope cpos) ρc out)
    (U : Upd1 x (.lst out) ρ ρ') (hx : sc.names.lookup x = some .local) (hline : (p.line == cpos.line) = true) (hnames : (scope.names.any fun (q : Str × NameKind) => q.1 == x && (q.2 == .local || q.2 == .cell)) = false)
    (k : ∀ s', St c s₀ g own F₀ env ρ' mu s' → Ex c A env rest Q E s')
    (hs : ∀ env x, foldedSetIterable g0.iter env x = pure x := by intro _ _; rfl) (hcell : (cellNames scope).all (fun x => scope.names.lookup x == some .cell) = true := by decide) (hfa : firstAsync (g0 :: gs) = false := by rfl) :
    Ex c A env (.Assign [.Name x p] (.ListComp elt (g0 :: gs) scope cpos) pos :: rest) Q E s := by
  obtain ⟨t, i, ifs, a⟩ := g0
  have hxk : env.kindOf x = some .local := by unfold Env.kindOf; rw [f.hsc]; exact hx
  have hsw : swapsWith (.ListComp elt (⟨t, i, ifs, a⟩ :: gs) scope cpos) (some (.Name x p)) pos.line env = pure true := by
    unfold swapsWith
    have hb : env.blockKind = .function := by unfold Env.blockKind; rw [f.ev.kind]; rfl
    have hl : (p.line == (Expr.ListComp elt (⟨t, i, ifs, a⟩ :: gs) scope cpos).pos.line) = true := hline
    have hn' : (scope.names.any fun (n, k) => n == x && (k == NameKind.local || k == NameKind.cell)) = false := hnames
    show (pure (env.blockKind == .function && env.kindOf x == some .local && p.line == (Expr.ListComp elt (⟨t, i, ifs, a⟩ :: gs) scope cpos).pos.line && !(scope.names.any fun (n, k) => n == x && (k == NameKind.local || k == NameKind.cell))) : Sem Bool) = pure true
    rw [hb, hxk, hl, hn']; rfl
  refine ⟨wpAny_execs_cons ?_⟩
  rw [exec_Assign_Name_used _ _ _ _ hsw]
  refine wpAny_bind (wpAny_standAt (wpAny_bind ?_))
  show wpAny _ A (do let _ ← comprehension (.ListComp elt (⟨t, i, ifs, a⟩ :: gs) scope cpos) scope env (firstIterPos (⟨t, i, ifs, a⟩ :: gs) cpos) (newList []) (firstAsync (⟨t, i, ifs, a⟩ :: gs)) (eval i env) (some (assign (.Name x p) env))) _ _ s
  rw [hfa]
  refine wpAny_bind (wpAny_mono (comp_main (Q := fun _ s' => St c s₀ g own F₀ env ρ' mu s') (use := some (assign (.Name x p) env)) f.ok f.hsc f.ev f.room S cap h0 hs hcell hit hI hρ run fun D0 C m s' k hn hC r => ?_) (fun _ s' S' => wpAny_pure (wpAny_pure (k s' S').go)) fun _ _ e => e)
  show wpAny _ A (assign (.Name x p) env (.ref D0)) _ E s'
  have hCo : ∃ o, s'.heap.get? C = some o := let ⟨o, _, _, e, _⟩ := hn; ⟨o, e⟩
  have S1 : St c s₀ g own (C :: F₀) env ρ mu s' := S.withIt k hC hCo
  have hCown : C ∉ own := (S1.live C (.head _)).1
  have hCg : g C = none := by
    cases e : g C with
    | none => rfl
    | some o => have := S.keep _ _ e; rw [hC] at this; cases this
  have hCF : C ∉ F₀ := fun q => by obtain ⟨_, o, e⟩ := S.live C q; rw [hC] at e; cases e
  refine wpAny_assign_Name (st_storeL f.ev S1.hide U r hxk fun s'' S2 => ?_)
  have hn2 : s''.heap.Ns C m := hn.at' fun o e => S2.kept _ _ hCown e
  have S3 := S1.unhide S2
  refine ⟨m, hn2, fun h' hs' => ?_⟩
  have notc : ∀ v, ¬ s''.heap.IsCell C v := fun v q => ns_notCell hn2 q
  refine S3.turn [C] ⟨h', s''.toks, rfl⟩ (fun b o hb e => (hs'.2 b (fun q => hb (by rw [q]; exact .head _))).trans e) (fun a q => by rw [List.mem_singleton.mp q]; exact hCown) (fun a q => by rw [List.mem_singleton.mp q]; exact hCg) (fun a q o _ => by rw [List.mem_singleton.mp q]; exact .head _)
    (fun a q v i => notc v (by rw [List.mem_singleton.mp q] at i; exact i)) (fun a o _ q => List.mem_cons_of_mem _ q) (fun a q => ?_) (fun a v i q => ?_)
  · obtain ⟨h1, o, e⟩ := S3.live a (List.mem_cons_of_mem _ q)
    exact ⟨h1, o, (hs'.2 a (fun z => hCF (z ▸ q))).trans e⟩
  · rcases List.mem_cons.mp q with rfl | q
    · exact absurd i (notc v)
    · exact q
end

end Mine

namespace Mine

section
variable {c : Cx} {n : Nat} {sc : Scope} {s₀ s : Shared} {g : Addr → Option Obj} {own F₀ : List Addr} {env : Env} {ρ ρ' : Vars} {mu mu' : Option (Addr × M)} {A : Around} {E : Value → Shared → Prop} {Q : Flow → Shared → Prop} {rest : List Stmt}

/-- a tuple target, or any that Asg knows -/
theorem ex_assignA {t value : Expr} {pos : Pos} {d : D} (f : Fm c n sc env own A) (S : St c s₀ g own F₀ env ρ mu s) (hev : Ev c n sc ρ mu value d) (ha : Asg c sc (fun _ => true) mu t d ρ ρ')
    (k : ∀ s', St c s₀ g own F₀ env ρ' mu s' → Ex c A env rest Q E s')
    (hs : swapsWithSole [t] value pos.line env = pure false) (hw : swappedStores [t] value env = pure none) (he : (assignEach [t] env).map (·.2) = [assign t env]) : Ex c A env (.Assign [t] value pos :: rest) Q E s := by
  refine ex_step (wpAny_Assign_stores (wpAny_mono (hev.run f.ok A E env s₀ g own F₀ s f.hsc f.ev f.room S) (fun v s1 q1 => ?_) fun _ _ e => e) hs hw) k
  rw [he]
  exact wpAny_mono (ha.run A E env s₀ g own F₀ s1 v f.hsc f.ev (fun x _ hk => f.oc.at (by unfold Env.kindOf; rw [f.hsc]; exact hk)) f.room.handled (S.more q1.1) q1.2) (fun _ s' S' => ⟨rfl, S'⟩) fun _ _ e => e

/-- a thing new since s₀ taken for the frame's own -/
theorem St.own1 {a : Addr} {md : M} (S : St c s₀ g own F₀ env ρ none s) (hg : g a = none) (hF : a ∉ own ++ F₀) (hal : ∃ o, s.heap.get? a = some o) (hn : ∀ v, ¬ s.heap.IsCell a v) (hoff : ∀ x d, (x, d) ∈ ρ → ∀ v, Rep (own ++ F₀) s.heap v d → Rep (a :: (own ++ F₀)) s.heap v d) (hm : MAt (a :: (own ++ F₀)) s.heap a md) :
    St c s₀ g (a :: own) F₀ env ρ (some (a, md)) s := by
  refine ⟨S.same, S.base, S.keep, fun b m => ?_, fun b m => ?_, List.mem_cons_of_mem _ S.loc, fun b m => ?_, ?_, S.cells, fun b md' e => ?_⟩
  · rcases List.mem_cons.mp m with rfl | m
    · exact hg
    · exact S.fresh b m
  · obtain ⟨h1, h2⟩ := S.live b m
    exact ⟨fun q => (List.mem_cons.mp q).elim (fun q => hF (List.mem_append_right _ (q ▸ m))) h1, h2⟩
  · rcases List.mem_cons.mp m with rfl | m
    · exact hal
    · exact S.alive b m
  · obtain ⟨m, hn', hv⟩ := S.vars
    refine ⟨m, hn', fun x d q => ?_⟩
    obtain ⟨v, r, z⟩ := hv x d q
    exact ⟨v, hoff x d q v r, z.imp id fun ⟨p, k, b, hb, i⟩ => ⟨p, k, b, List.mem_cons_of_mem _ hb, i⟩⟩
  · cases e
    exact ⟨.head _, fun q => hF (List.mem_append_left _ (q ▸ S.loc)), hm⟩

/-- x = a display, to be turned: the list is the frame's own from here on -/
theorem ex_assign_newlist {x : Str} {p lp pos : Pos} {es : List Expr} {ds : List D} (f : Fm c n sc env own A) (S : St c s₀ g own F₀ env ρ none s) (hev : EvL c n sc ρ none es ds) (hz : ds.length ≤ 1000)
    (U : ∀ a, Upd1 x (.ptr (.ref a)) ρ (ρ ++ [(x, .ptr (.ref a))]))
    (hk : sc.names.lookup x = some .local ∨ sc.names.lookup x = some .cell) (hsw : swapsWith (.List es lp) (some (.Name x p)) pos.line env = pure false)
    (k : ∀ a s', a ∉ own → St c s₀ g (a :: own) F₀ env (ρ ++ [(x, .ptr (.ref a))]) (some (a, .lst ds)) s' → Ex c A env rest Q E s') : Ex c A env (.Assign [.Name x p] (.List es lp) pos :: rest) Q E s := by
  refine ⟨wpAny_execs_cons (wpAny_Assign_Name (wpAny_List_spliced (wpAny_mono (hev.run f.ok A E env s₀ g own F₀ s lp f.hsc f.ev f.room S) (fun vs s1 q1 => ?_) fun _ _ e => e)) hsw)⟩
  refine ⟨by rw [q1.2.length, sizeLine_eq]; omega, ?_⟩
  have S1 := S.more q1.1
  have S2 := S1.more (kpPush s1 (lstO vs 0))
  have hno : s1.heap.get? s1.heap.objs.size = none := fresh_none _
  have hg : g s1.heap.objs.size = none := by
    cases e : g s1.heap.objs.size with
    | none => rfl
    | some o => have := S1.keep _ _ e; rw [hno] at this; cases this
  have hoff : s1.heap.objs.size ∉ own ++ F₀ := S1.lives.off
  have hat : (s1.heap.push (lstO vs 0)).get? s1.heap.objs.size = some (lstO vs 0) := Heap.get?_push_size _ rfl
  have mv : ∀ {v d}, Rep (own ++ F₀) s1.heap v d → Rep (s1.heap.objs.size :: (own ++ F₀)) (s1.heap.push (lstO vs 0)) v d := fun r => r.move (Le.of_all fun _ _ e => Heap.get?_push_of_some _ e) fun a o e m => by
    rcases List.mem_cons.mp m with rfl | m
    · rw [hno] at e; cases e
    · exact m
  have mvL : ∀ {vs' ds'}, RepL (own ++ F₀) s1.heap vs' ds' → RepL (s1.heap.objs.size :: (own ++ F₀)) (s1.heap.push (lstO vs 0)) vs' ds' := fun r => r.move (Le.of_all fun _ _ e => Heap.get?_push_of_some _ e) fun a o e m => by
    rcases List.mem_cons.mp m with rfl | m
    · rw [hno] at e; cases e
    · exact m
  have hS3 : St c s₀ g (s1.heap.objs.size :: own) F₀ env ρ (some (s1.heap.objs.size, .lst ds)) { s1 with heap := s1.heap.push (lstO vs 0) } := by
    obtain ⟨m, hn', hv⟩ := S1.vars
    have S1' : St c s₀ g own F₀ env [] none { s1 with heap := s1.heap.push (lstO vs 0) } := S2.fewer fun _ h => nomatch h
    have S3 := S1'.own1 (a := s1.heap.objs.size) (md := .lst ds) hg hoff ⟨_, hat⟩ (fun v ⟨o, e, h⟩ => by rw [hat] at e; cases e; cases h) (fun _ _ h => nomatch h) ⟨vs, 0, hat, mvL q1.2⟩
    refine { S3 with vars := ⟨m, hn'.push _, fun y e hy => ?_⟩ }
    obtain ⟨v, r, z⟩ := hv y e hy
    exact ⟨v, mv r, z.imp id fun ⟨p, k, b, hb, i⟩ => ⟨p, k, b, List.mem_cons_of_mem _ hb, i.keeps fun _ _ e => Heap.get?_push_of_some _ e⟩⟩
  have f' := f.more (own' := s1.heap.objs.size :: own) fun _ m => List.mem_cons_of_mem _ m
  refine st_store f.hsc f.ev hS3 (U _) (.ptr _) (hk.imp id fun h => ⟨h, f'.oc.at (by unfold Env.kindOf; rw [f.hsc]; exact h)⟩) fun s' S' => (k _ s' (fun m => hoff (List.mem_append_left _ m)) S').go

/-- the list in turn is turned no more: it stands for good -/
theorem St.freezeL {a : Addr} {ds : List D} {ρ' : Vars} (S : St c s₀ g (a :: own) F₀ env ρ (some (a, .lst ds)) s) (hL : a ≠ env.locals) (hloc : env.locals ∈ own) (hao : a ∉ own) (hoc : OwnC env own) (hρ : ∀ x d, (x, d) ∈ ρ' → (x, d) ∈ ρ ∨ (d = .lst ds ∧ (x, .ptr (.ref a)) ∈ ρ)) : St c s₀ g own F₀ env ρ' none s := by
  obtain ⟨_, _, vs, nn, ho, q⟩ := S.mtd a _ rfl
  have hsub : ∀ b ∈ own ++ F₀, b ∈ (a :: own) ++ F₀ := fun b m => List.mem_cons_of_mem _ m
  have haF : a ∉ own ++ F₀ := fun m => (List.mem_append.mp m).elim hao fun m => (S.live a m).1 (.head _)
  refine ⟨S.same, S.base, S.keep, fun b m => S.fresh b (List.mem_cons_of_mem _ m), fun b m => ?_, hloc, fun b m => S.alive b (List.mem_cons_of_mem _ m), ?_, S.cells, fun _ _ e => nomatch e⟩
  · obtain ⟨h1, h2⟩ := S.live b m
    exact ⟨fun q => h1 (List.mem_cons_of_mem _ q), h2⟩
  · obtain ⟨m, hn, hv⟩ := S.vars
    have key : ∀ x v, ((env.kindOf x = some .local ∧ m x = some v) ∨ (env.kindOf x = some .cell ∧ ∃ k, env.cells.lookup x = some k ∧ k ∈ (a :: own) ++ F₀ ∧ s.heap.IsCell k (some v))) →
        ((env.kindOf x = some .local ∧ m x = some v) ∨ (env.kindOf x = some .cell ∧ ∃ k, env.cells.lookup x = some k ∧ k ∈ own ++ F₀ ∧ s.heap.IsCell k (some v))) := fun x v z => z.imp id fun ⟨p, k, b, _, i⟩ => by
      obtain ⟨k', b', hb'⟩ := hoc.has x p
      rw [b] at b'; cases b'
      exact ⟨p, k, b, List.mem_append_left _ hb', i⟩
    refine ⟨m, hn, fun x d hx => ?_⟩
    rcases hρ x d hx with hx | ⟨hdd, hx⟩
    · obtain ⟨v, r, z⟩ := hv x d hx
      exact ⟨v, r.less hsub, key x v z⟩
    · obtain ⟨v, r, z⟩ := hv x _ hx
      cases r
      exact ⟨_, by rw [hdd]; exact .lst haF ho (q.less hsub), key x _ z⟩

theorem ex_expr {e : Expr} {pos : Pos} (ev : EnvOk env) (hsw : swapsWith e none pos.line env = pure false) (h : wpAny (model c.prog c.w) A (eval e env) (fun _ s' => St c s₀ g own F₀ env ρ' mu' s') E s) (k : ∀ s', St c s₀ g own F₀ env ρ' mu' s' → Ex c A env rest Q E s') : Ex c A env (.Expr e pos :: rest) Q E s :=
  ex_step (wpAny_Expr_any (wpAny_mono h (fun _ _ q => ⟨rfl, q⟩) fun _ _ e => e) (by unfold interactive; rw [ev.kind]; rfl) hsw) k

/-- x.append(e), of the list in turn -/
theorem ex_append {x : Str} {xp ap cp pos : Pos} {e : Expr} {a : Addr} {ds : List D} {d : D} (f : Fm c n sc env own A) (S : St c s₀ g own F₀ env ρ (some (a, .lst ds)) s) (hx : (x, .ptr (.ref a)) ∈ ρ) (he : Ev c n sc ρ (some (a, .lst ds)) e d) (hz : ds.length ≤ 100000)
    (hbase : attributeBase (.Name x xp) "append" env (eval (.Name x xp) env) = eval (.Name x xp) env) (hs : starEach [e] env = [(false, eval e env)]) (hline : (ap.endLine == cp.line) = true) (hd : (x == ("__debug__" : Str)) = false)
    (k : ∀ s', St c s₀ g own F₀ env ρ (some (a, .lst (ds ++ [d]))) s' → Ex c A env rest Q E s') : Ex c A env (.Expr (.Call (.Attribute (.Name x xp) "append" ap) [e] [] cp) pos :: rest) Q E s := by
  refine ex_expr f.ev rfl (Call_method1 hbase hs hline (wpAny_mono ((Ev.var hx hd).run f.ok A E env s₀ g own F₀ s f.hsc f.ev f.room S) (fun v s1 q1 => ?_) fun _ _ e => e)) k
  obtain ⟨k1, r1⟩ := q1
  (first | refine Rep.eint r1 fun _ => ?_ | refine Rep.eptr r1 ?_ | refine Rep.estr r1 fun _ => ?_ | refine Rep.eflt r1 fun _ => ?_ | refine Rep.ebool r1 ?_)
  have S1 := S.more k1
  obtain ⟨_, _, vs, nn, ho, q⟩ := S1.mtd a _ rfl
  refine ⟨"list", "list.append", F.plainAttrs_list, F.slot_list_append, type_list_append, ⟨_, ho, rfl⟩, fun b e => ?_, ?_⟩
  · cases e; exact ⟨_, ho, rfl⟩
  · have pl : wpAny (model c.prog c.w) A (eval e env) (fun v s₁ => wpAny (model c.prog c.w) A (PySem.call (.builtin "list.append") [.ref a, v]) (fun _ s' => St c s₀ g own F₀ env ρ (some (a, .lst (ds ++ [d]))) s') E s₁) E s1 := wpAny_mono (he.run f.ok A E env s₀ g own F₀ s1 f.hsc f.ev f.room S1) (fun v s2 q2 => st_append (S1.more q2.1) q2.2 hz fun s' S' _ => S') fun _ _ e => e
    exact Calls.callWith_builtin rfl (Calls.evalArgs_plain (Calls.spliced_cons (wpAny_mono pl (fun _ _ h => Calls.spliced_nil h) fun _ _ e => e)))
end
end Mine

namespace Mine

inductive KV : List (Int × Value) → List (Int × Int) → Prop
  | nil : KV [] []
  | cons {k x : Int} {t : Tok} {ks : List (Int × Value)} {kvs : List (Int × Int)} : KV ks kvs → KV ((k, .int x t) :: ks) ((k, x) :: kvs)

noncomputable def storedI (kvs : List (Int × Int)) (k x : Int) : List (Int × Int) := if kvs.any (fun kv => kv.1 = k) then kvs.map (fun kv => if kv.1 = k then (kv.1, x) else kv) else kvs ++ [(k, x)]

theorem KV.fst {ks kvs} (h : KV ks kvs) : ks.map (·.1) = kvs.map (·.1) := by
  induction h with
  | nil => rfl
  | cons _ ih => simp [ih]
theorem KV.len {ks kvs} (h : KV ks kvs) : ks.length = kvs.length := by
  induction h with
  | nil => rfl
  | cons _ ih => simp [ih]
theorem KV.app {ks kvs} (h : KV ks kvs) (k x : Int) (t : Tok) : KV (ks ++ [(k, .int x t)]) (kvs ++ [(k, x)]) := by
  induction h with
  | nil => exact .cons .nil
  | cons _ ih => exact .cons ih
theorem KV.any {ks kvs} (h : KV ks kvs) (k : Int) : (ks.any fun kv => kv.1 = k) = kvs.any fun kv => kv.1 = k := by
  induction h with
  | nil => rfl
  | cons _ ih => simp only [List.any_cons, ih]
theorem KV.set {ks kvs} (h : KV ks kvs) (k x : Int) (t : Tok) : KV (ks.map fun kv => if kv.1 = k then (kv.1, .int x t) else kv) (kvs.map fun kv => if kv.1 = k then (kv.1, x) else kv) := by
  induction h with
  | nil => exact .nil
  | cons _ ih =>
    simp only [List.map_cons]
    split <;> exact .cons ih
theorem KV.stored {ks kvs} (h : KV ks kvs) (k x : Int) (t : Tok) : KV (PySem.stored ks k (.int x t)) (storedI kvs k x) := by
  unfold PySem.stored storedI
  rw [h.any]
  split
  · exact h.set k x t
  · exact h.app k x t
noncomputable def lookI (kvs : List (Int × Int)) (k : Int) : Option Int := (kvs.find? fun kv => kv.1 = k).map (·.2)
theorem KV.look {ks kvs} (h : KV ks kvs) (k : Int) : (valueAt ks k = none ∧ lookI kvs k = none) ∨ ∃ x t, valueAt ks k = some (.int x t) ∧ lookI kvs k = some x := by
  unfold valueAt lookI
  induction h with
  | nil => exact .inl ⟨rfl, rfl⟩
  | cons _ ih =>
    rename_i k' x t ks kvs _
    by_cases e : k' = k
    · refine .inr ⟨x, t, ?_, ?_⟩ <;> simp [e]
    · simpa [e] using ih
theorem Ents.kv {prog : Program} {w : World} : ∀ {es : List DictEntry} {kvs : List (Int × Int)}, Ents es kvs → ∃ ks, Pairs (intKind prog w) es ks ∧ KV ks kvs
  | _, _, .nil => ⟨[], .nil, .nil⟩
  | _, _, .cons (k := k) (v := v) (t := t) (u := u) r => by
    obtain ⟨ks, h1, h2⟩ := Ents.kv r
    exact ⟨(k, .int v u) :: ks, .cons (by simp [intKind, Value.isInt]) rfl h1, .cons h2⟩
theorem ents_of {prog : Program} {w : World} {es : List DictEntry} : ∀ {ks : List (Int × Value)} {kvs : List (Int × Int)}, (∀ e ∈ es, ∃ k, (intKind prog w).is k e.key = true ∧ e.hash = (intKind prog w).hash k) → Pairs (intKind prog w) es ks → KV ks kvs → Ents es kvs := by
  induction es with
  | nil => intro ks kvs _ p k; cases p; cases k; exact .nil
  | cons e es ih =>
    intro ks kvs hk p h
    cases p with
    | cons a b r =>
      cases h with
      | cons h =>
        rename_i ks k x t kvs
        obtain ⟨k', h1, h2⟩ := hk e (.head _)
        have hkk : k' = k := (intKind prog w).inj _ _ _ h1 a
        subst hkk
        obtain ⟨t', ht⟩ := Value.isInt_shape a
        obtain ⟨eh, ek, evv⟩ := e
        simp only at ht h2 b
        subst ht; subst b; subst h2
        exact .cons (ih (fun e m => hk e (.tail _ m)) r h)
theorem dictOf_mk {prog : Program} {w : World} {h : Heap} {a : Addr} {es : List DictEntry} {n : Nat} {kvs : List (Int × Int)} (ho : h.get? a = some (dctO es n)) (e : Ents es kvs) (hn : (kvs.map (·.1)).Nodup) :
    ∃ ks : List (Int × Value), h.DictOf (intKind prog w) a ks ∧ KV ks kvs := by
  obtain ⟨ks, h1, h2⟩ := e.kv (prog := prog) (w := w)
  exact ⟨ks, ⟨_, es.toArray, n, ho, ⟨rfl, rfl, rfl⟩, rfl, fun x hx => e.keys x (by simpa using hx), by simpa using h1, by rw [h2.fst]; exact hn⟩, h2⟩
theorem dictOf_back {prog : Program} {w : World} {h : Heap} {a : Addr} {ks : List (Int × Value)} {kvs : List (Int × Int)} (hd : h.DictOf (intKind prog w) a ks) (k : KV ks kvs) : ∃ es n, h.get? a = some (dctO es n) ∧ Ents es kvs ∧ (kvs.map (·.1)).Nodup := by
  obtain ⟨o, es, ep, ho, ⟨h1, h2, h3⟩, hdt, hk, hp, hn⟩ := hd
  refine ⟨es.toList, ep, ?_, ents_of (fun e m => hk e (by simpa using m)) hp k, by rw [← k.fst]; exact hn⟩
  rw [ho]
  obtain ⟨oc, od, odat, osl⟩ := o
  simp only at h1 h2 h3 hdt
  subst h1; subst h2; subst h3; subst hdt
  simp [dctO]

section
variable {c : Cx} {n : Nat} {sc : Scope} {s₀ s : Shared} {g : Addr → Option Obj} {own F₀ : List Addr} {env : Env} {ρ ρ' : Vars} {mu mu' : Option (Addr × M)} {A : Around} {E : Value → Shared → Prop} {Q : Flow → Shared → Prop} {rest : List Stmt}

/-- a thing made new: the frame's own -/
theorem St.made {o : Obj} {md : M} (S : St c s₀ g own F₀ env ρ none s) (hc : ∀ v, o.data ≠ .cell v) (hfr : o.isFreed = false) (hm : MAt (s.heap.objs.size :: (own ++ F₀)) (s.heap.push o) s.heap.objs.size md) : St c s₀ g (s.heap.objs.size :: own) F₀ env ρ (some (s.heap.objs.size, md)) { s with heap := s.heap.push o } := by
  have hno : s.heap.get? s.heap.objs.size = none := fresh_none _
  have hg : g s.heap.objs.size = none := by
    cases e : g s.heap.objs.size with
    | none => rfl
    | some o => have := S.keep _ _ e; rw [hno] at this; cases this
  have hoff : s.heap.objs.size ∉ own ++ F₀ := S.lives.off
  have hat : (s.heap.push o).get? s.heap.objs.size = some o := Heap.get?_push_size _ hfr
  have mv : ∀ {v d}, Rep (own ++ F₀) s.heap v d → Rep (s.heap.objs.size :: (own ++ F₀)) (s.heap.push o) v d := fun r => r.move (Le.of_all fun _ _ e => Heap.get?_push_of_some _ e) fun a o e m => by
    rcases List.mem_cons.mp m with rfl | m
    · rw [hno] at e; cases e
    · exact m
  have S2 := S.more (kpPush s o)
  have S1' : St c s₀ g own F₀ env [] none { s with heap := s.heap.push o } := S2.fewer fun _ h => nomatch h
  have S3 := S1'.own1 (a := s.heap.objs.size) (md := md) hg hoff ⟨_, hat⟩ (fun v ⟨o', e, h⟩ => by rw [hat] at e; cases e; exact hc _ h) (fun _ _ h => nomatch h) hm
  obtain ⟨m, hn', hv⟩ := S.vars
  refine { S3 with vars := ⟨m, hn'.push _, fun y e hy => ?_⟩ }
  obtain ⟨v, r, z⟩ := hv y e hy
  exact ⟨v, mv r, z.imp id fun ⟨p, k, b, hb, i⟩ => ⟨p, k, b, List.mem_cons_of_mem _ hb, i.keeps fun _ _ e => Heap.get?_push_of_some _ e⟩⟩

/-- x = {}, to be turned -/
theorem ex_assign_newdict {x : Str} {p lp pos : Pos} (f : Fm c n sc env own A) (S : St c s₀ g own F₀ env ρ none s) (hb0 : ∃ b o, sysModules < b ∧ c.K.lookup b = some o)
    (U : ∀ a, Upd1 x (.ptr (.ref a)) ρ (ρ ++ [(x, .ptr (.ref a))]))
    (hk : sc.names.lookup x = some .local ∨ sc.names.lookup x = some .cell) (hsw : swapsWith (.Dict [] [] lp) (some (.Name x p)) pos.line env = pure false)
    (k : ∀ a s', a ∉ own → St c s₀ g (a :: own) F₀ env (ρ ++ [(x, .ptr (.ref a))]) (some (a, .dct [])) s' → Ex c A env rest Q E s') : Ex c A env (.Assign [.Name x p] (.Dict [] [] lp) pos :: rest) Q E s := by
  refine ⟨wpAny_execs_cons (wpAny_Assign_Name (wpAny_Dict_empty ?_) hsw)⟩
  have hat : (s.heap.push (dctO [] 0)).get? s.heap.objs.size = some (dctO [] 0) := Heap.get?_push_size _ rfl
  have hS : St c s₀ g (s.heap.objs.size :: own) F₀ env ρ (some (s.heap.objs.size, .dct [])) { s with heap := s.heap.push (dctO [] 0) } := S.made (fun v h => nomatch h) rfl ⟨by
    obtain ⟨b, o, hb, e⟩ := hb0
    have := Nat.lt_trans hb (Heap.lt_size (S.b0 _ _ (f.ok.X _ _ e)))
    exact beq_false_of_ne (Nat.ne_of_gt this), [], 0, hat, .nil, .nil⟩
  have f' := f.more (own' := s.heap.objs.size :: own) fun _ m => List.mem_cons_of_mem _ m
  refine st_store f.hsc f.ev hS (U _) (.ptr _) (hk.imp id fun h => ⟨h, f'.oc.at (by unfold Env.kindOf; rw [f.hsc]; exact h)⟩) fun s' S' => (k _ s' (fun m => S.lives.off (List.mem_append_left _ m)) S').go

/-- a store into the dict in turn -/
theorem st_setitem {a : Addr} {kvs : List (Int × Int)} {k x : Int} {t u : Tok} {Q : Unit → Shared → Prop} (S : St c s₀ g own F₀ env ρ (some (a, .dct kvs)) s) (hz : kvs.length ≤ 1000)
    (h : ∀ s', St c s₀ g own F₀ env ρ (some (a, .dct (storedI kvs k x))) s' → Q () s') : wpAny (model c.prog c.w) A (setItem (.ref a) (.int k t) (.int x u)) Q E s := by
  obtain ⟨h1, h2, hm, es, nn, ho, e, hn⟩ := S.mtd a _ rfl
  obtain ⟨ks, hd, hkv⟩ := dictOf_mk (prog := c.prog) (w := c.w) ho e hn
  refine wpAny_setItem_pairs (knd := intKind c.prog c.w) (k := k) (by simp [intKind, Value.isInt]) hd (fun h' hd' hs => ?_) (by rw [hkv.len, sizeLine_eq]; omega)
  obtain ⟨es', n', ho', e', hn'⟩ := dictOf_back hd' (hkv.stored k x u)
  exact h _ (S.mutate ⟨h', _, rfl⟩ hs ⟨hm, es', n', ho', e', hn'⟩)

theorem ex_setitem {x : Str} {xp tp pos : Pos} {i value : Expr} {a : Addr} {kvs : List (Int × Int)} {k v : Int} (f : Fm c n sc env own A) (S : St c s₀ g own F₀ env ρ (some (a, .dct kvs)) s) (hx : (x, .ptr (.ref a)) ∈ ρ) (hz : kvs.length ≤ 1000)
    (hv : Ev c n sc ρ (some (a, .dct kvs)) value (.int v)) (hi : Ev c n sc ρ (some (a, .dct kvs)) i (.int k)) (hd : (x == ("__debug__" : Str)) = false) (hsw : swapsWith value (some (.Subscript (.Name x xp) i tp)) pos.line env = pure false)
    (kk : ∀ s', St c s₀ g own F₀ env ρ (some (a, .dct (storedI kvs k v))) s' → Ex c A env rest Q E s') : Ex c A env (.Assign [.Subscript (.Name x xp) i tp] value pos :: rest) Q E s := by
  refine ex_step (wpAny_Assign_Subscript (wpAny_mono (hv.run f.ok A E env s₀ g own F₀ s f.hsc f.ev f.room S) (fun v1 s1 q1 => ?_) fun _ _ e => e) hsw) kk
  have S1 := S.more q1.1
  refine wpAny_mono ((Ev.var hx hd).run f.ok A E env s₀ g own F₀ s1 f.hsc f.ev f.room S1) (fun v2 s2 q2 => ?_) fun _ _ e => e
  have S2 := S1.more q2.1
  refine wpAny_mono (hi.run f.ok A E env s₀ g own F₀ s2 f.hsc f.ev f.room S2) (fun v3 s3 q3 => ?_) fun _ _ e => e
  have S3 := S2.more q3.1
  obtain ⟨_, r1⟩ := q1; obtain ⟨_, r2⟩ := q2; obtain ⟨_, r3⟩ := q3
  (first | refine Rep.eint r1 fun _ => ?_ | refine Rep.eptr r1 ?_ | refine Rep.estr r1 fun _ => ?_ | refine Rep.eflt r1 fun _ => ?_ | refine Rep.ebool r1 ?_); (first | refine Rep.eint r2 fun _ => ?_ | refine Rep.eptr r2 ?_ | refine Rep.estr r2 fun _ => ?_ | refine Rep.eflt r2 fun _ => ?_ | refine Rep.ebool r2 ?_); (first | refine Rep.eint r3 fun _ => ?_ | refine Rep.eptr r3 ?_ | refine Rep.estr r3 fun _ => ?_ | refine Rep.eflt r3 fun _ => ?_ | refine Rep.ebool r3 ?_)
  exact st_setitem S3 hz fun s' S' => ⟨rfl, S'⟩

theorem ex_augitem {x : Str} {xp tp pos : Pos} {i value : Expr} {a : Addr} {kvs : List (Int × Int)} {k v0 v : Int} (f : Fm c n sc env own A) (S : St c s₀ g own F₀ env ρ (some (a, .dct kvs)) s) (hx : (x, .ptr (.ref a)) ∈ ρ) (hz : kvs.length ≤ 1000)
    (hi : Ev c n sc ρ (some (a, .dct kvs)) i (.int k)) (h0 : lookI kvs k = some v0) (hv : Ev c n sc ρ (some (a, .dct kvs)) value (.int v)) (hd : (x == ("__debug__" : Str)) = false)
    (ha : ∀ ov iv new, augStore i ov iv new = (do holding [new, ov, iv] (setItem ov iv new); release [new, ov, iv] []; pure .next))
    (kk : ∀ s', St c s₀ g own F₀ env ρ (some (a, .dct (storedI kvs k (v0 + v)))) s' → Ex c A env rest Q E s') : Ex c A env (.AugAssign (.Subscript (.Name x xp) i tp) .Add value pos :: rest) Q E s := by
  refine ex_step (wpAny_AugAssign_Subscript_any (wpAny_mono ((Ev.var hx hd).run f.ok A E env s₀ g own F₀ s f.hsc f.ev f.room S) (fun v2 s1 q2 => ?_) fun _ _ e => e) ha) kk
  have S1 := S.more q2.1
  refine wpAny_mono (hi.run f.ok A E env s₀ g own F₀ s1 f.hsc f.ev f.room S1) (fun v3 s2 q3 => ?_) fun _ _ e => e
  have S2 := S1.more q3.1
  obtain ⟨_, r2⟩ := q2; obtain ⟨_, r3⟩ := q3
  (first | refine Rep.eint r2 fun _ => ?_ | refine Rep.eptr r2 ?_ | refine Rep.estr r2 fun _ => ?_ | refine Rep.eflt r2 fun _ => ?_ | refine Rep.ebool r2 ?_); (first | refine Rep.eint r3 fun _ => ?_ | refine Rep.eptr r3 ?_ | refine Rep.estr r3 fun _ => ?_ | refine Rep.eflt r3 fun _ => ?_ | refine Rep.ebool r3 ?_)
  obtain ⟨_, _, hm, es, nn, ho, e, hn⟩ := S2.mtd a _ rfl
  obtain ⟨ks, hdd, hkv⟩ := dictOf_mk (prog := c.prog) (w := c.w) ho e hn
  rcases hkv.look k with ⟨_, q⟩ | ⟨x', t', hva, q⟩
  · rw [h0] at q; cases q
  · rw [h0] at q; cases q
    refine wpAny_getItem_of (knd := intKind c.prog c.w) (k := k) (by simp [intKind, Value.isInt]) hdd.mapOf hva ?_
    have S3 := S2.more (kpTok s2 (s2.toks + 1))
    refine wpAny_mono (hv.run f.ok A E env s₀ g own F₀ _ f.hsc f.ev f.room S3) (fun v4 s4 q4 => ?_) fun _ _ e => e
    have S4 := S3.more q4.1
    obtain ⟨_, r4⟩ := q4
    (first | refine Rep.eint r4 fun _ => ?_ | refine Rep.eptr r4 ?_ | refine Rep.estr r4 fun _ => ?_ | refine Rep.eflt r4 fun _ => ?_ | refine Rep.ebool r4 ?_)
    refine wpAny_mono (InpV.add.run c.prog c.w A E (own ++ F₀) s4 _ _ f.room.handled (S4.nolimit f.ok) S4.lives (.int v0 _) (.int v _)) (fun v5 s5 q5 => ?_) fun _ _ e => e
    obtain ⟨k5, r5⟩ := q5
    (first | refine Rep.eint r5 fun _ => ?_ | refine Rep.eptr r5 ?_ | refine Rep.estr r5 fun _ => ?_ | refine Rep.eflt r5 fun _ => ?_ | refine Rep.ebool r5 ?_)
    exact st_setitem (S4.more k5) hz fun s' S' => ⟨rfl, S'⟩

theorem Tr.inM {x : Str} {xp pos : Pos} {l : Expr} {a : Addr} {kvs : List (Int × Int)} {k : Int} (hl : Ev c n sc ρ (some (a, .dct kvs)) l (.int k)) (hx : (x, .ptr (.ref a)) ∈ ρ) (hd : (x == ("__debug__" : Str)) = false := by decide) (hm : behindInMarks .In (.Name x xp) = false := by with_unfolding_all rfl) :
    Tr c n sc ρ (some (a, .dct kvs)) (.Compare l [.In] [.Name x xp] pos) (lookI kvs k).isSome := .mk fun ok A E env s₀ g own F₀ s hsc ev room S => by
  refine wpAny_isTrue_Compare1 (wpAny_mono (hl.run ok A E env s₀ g own F₀ s hsc ev room S) (fun v1 s1 q1 => ?_) fun _ _ e => e) hm
  have S1 := S.more q1.1
  refine wpAny_mono ((Ev.var hx hd).run ok A E env s₀ g own F₀ s1 hsc ev room S1) (fun v2 s2 q2 => ?_) fun _ _ e => e
  have S2 := S1.more q2.1
  obtain ⟨k1, r1⟩ := q1; obtain ⟨k2, r2⟩ := q2
  (first | refine Rep.eint r1 fun _ => ?_ | refine Rep.eptr r1 ?_ | refine Rep.estr r1 fun _ => ?_ | refine Rep.eflt r1 fun _ => ?_ | refine Rep.ebool r1 ?_); (first | refine Rep.eint r2 fun _ => ?_ | refine Rep.eptr r2 ?_ | refine Rep.estr r2 fun _ => ?_ | refine Rep.eflt r2 fun _ => ?_ | refine Rep.ebool r2 ?_)
  obtain ⟨_, _, hmm, es, nn, ho, e, hn⟩ := S2.mtd a _ rfl
  obtain ⟨ks, hdd, hkv⟩ := dictOf_mk (prog := c.prog) (w := c.w) ho e hn
  refine wpAny_in_of (knd := intKind c.prog c.w) (k := k) (by simp [intKind, Value.isInt]) hmm hdd.mapOf (wpAny_truthy_bool ⟨kpTrans k1 (kpTrans k2 (kpTok s2 _)), ?_⟩)
  rcases hkv.look k with ⟨p, q⟩ | ⟨x', t', p, q⟩ <;> (rw [q]; simp only [p]; rfl)

/-- the dict in turn is turned no more -/
theorem St.freezeD {a : Addr} {kvs : List (Int × Int)} (S : St c s₀ g (a :: own) F₀ env ρ (some (a, .dct kvs)) s) (hloc : env.locals ∈ own) (hao : a ∉ own) (hoc : OwnC env own) (hρ : ∀ x d, (x, d) ∈ ρ' → (x, d) ∈ ρ ∨ (d = .dct kvs ∧ (x, .ptr (.ref a)) ∈ ρ)) : St c s₀ g own F₀ env ρ' none s := by
  obtain ⟨_, _, hmm, es, nn, ho, q, qn⟩ := S.mtd a _ rfl
  have hsub : ∀ b ∈ own ++ F₀, b ∈ (a :: own) ++ F₀ := fun b m => List.mem_cons_of_mem _ m
  have haF : a ∉ own ++ F₀ := fun m => (List.mem_append.mp m).elim hao fun m => (S.live a m).1 (.head _)
  refine ⟨S.same, S.base, S.keep, fun b m => S.fresh b (List.mem_cons_of_mem _ m), fun b m => ?_, hloc, fun b m => S.alive b (List.mem_cons_of_mem _ m), ?_, S.cells, fun _ _ e => nomatch e⟩
  · obtain ⟨h1, h2⟩ := S.live b m
    exact ⟨fun q => h1 (List.mem_cons_of_mem _ q), h2⟩
  · obtain ⟨m, hn, hv⟩ := S.vars
    have key : ∀ x v, ((env.kindOf x = some .local ∧ m x = some v) ∨ (env.kindOf x = some .cell ∧ ∃ k, env.cells.lookup x = some k ∧ k ∈ (a :: own) ++ F₀ ∧ s.heap.IsCell k (some v))) →
        ((env.kindOf x = some .local ∧ m x = some v) ∨ (env.kindOf x = some .cell ∧ ∃ k, env.cells.lookup x = some k ∧ k ∈ own ++ F₀ ∧ s.heap.IsCell k (some v))) := fun x v z => z.imp id fun ⟨p, k, b, _, i⟩ => by
      obtain ⟨k', b', hb'⟩ := hoc.has x p
      rw [b] at b'; cases b'
      exact ⟨p, k, b, List.mem_append_left _ hb', i⟩
    refine ⟨m, hn, fun x d hx => ?_⟩
    rcases hρ x d hx with hx | ⟨hdd, hx⟩
    · obtain ⟨v, r, z⟩ := hv x d hx
      exact ⟨v, r.less hsub, key x v z⟩
    · obtain ⟨v, r, z⟩ := hv x _ hx
      cases r
      exact ⟨_, by rw [hdd]; exact .dct haF hmm ho q qn, key x _ z⟩

/-- a store into a plain list, the whole object known after it -/
theorem setItem_plain {l : Addr} {vs : List Value} {ne : Nat} {k : Int} {t : Tok} {v : Value} {Q : Unit → Shared → Prop} (ho : s.heap.get? l = some (lstO vs ne)) (h0 : 0 ≤ k) (h1 : k < 2 ^ 63) (hn : k.toNat < vs.length)
    (h : ∀ h' n', h'.get? l = some (lstO (vs.set k.toNat v) n') → Heap.SameBut l s.heap h' → Q () { s with heap := h' }) : wpAny (model c.prog c.w) A (setItem (.ref l) (.int k t) v) Q E s := by
  have hl : s.heap.IsList l vs.toArray := ⟨_, ho, rfl, ne, rfl⟩
  unfold setItem
  try with_reducible refine wpAny_holding ?_
  first | refine wpAny_bind (wpAny_pure ?_) | skip
  refine wpAny_bind (wpAny_sequenceKey hl.typeIs (by decide) ?_)
  refine wpAny_bind (wpAny_callSpecial?_slot (name := Str.ofString "__setitem__") hl.typeIs slot_list_setitem (wpAny_call_entry slot_list_setitem hl.typeIs entry_list_setitem ?_ (args_list_setitem _ _ _)))
  show wpAny _ _ (Builtin.List.listSubscript? (.int k t) >>= _) _ _ s
  refine wpAny_bind (wpAny_listSubscript_int (fitsIndex_of h0 h1) ?_)
  clear h1
  obtain ⟨j, rfl⟩ := Int.eq_ofNat_of_zero_le h0
  have hn' : j < vs.length := hn
  have item : vs.toArray[j]? = some vs[j] := by simp [hn']
  have fin : (s.heap.update l (Obj.mapSeq (·.setIfInBounds j v))).get? l = some (Obj.mapSeq (·.setIfInBounds j v) (lstO vs ne)) := Heap.get?_update_self _ ho rfl
  show wpAny _ _ ((seqItemAt l j >>= fun r => pure (r.map (j, ·))) >>= _) _ _ s
  refine wpAny_bind (wpAny_bind (wpAny_seqItemAt ho rfl (wpAny_pure ?_)))
  rw [item]
  show wpAny _ _ (setSeqItemAt l j v >>= _) _ _ s
  have hq : Q () { s with heap := s.heap.update l (Obj.mapSeq (·.setIfInBounds j v)) } := by
    refine h _ ?_ ?_ (Heap.SameBut.update ..)
    rotate_left
    · rw [fin]
      simp only [Obj.mapSeq, lstO, List.setIfInBounds_toArray, Int.toNat_natCast]
      rfl
  refine wpAny_bind (wpAny_setSeqItemAt ho rfl ?_)
  first
    | exact wpAny_bind (wpAny_pure (wpAny_pure ⟨.none, rfl, wpAny_pure hq⟩))
    | exact wpAny_pure ⟨.none, rfl, wpAny_pure hq⟩

/-- x[i] += v, of the list in turn -/
theorem ex_augsub {x : Str} {xp tp pos : Pos} {i value : Expr} {a : Addr} {ds : List D} {k v0 v : Int} (f : Fm c n sc env own A) (S : St c s₀ g own F₀ env ρ (some (a, .lst ds)) s) (hx : (x, .ptr (.ref a)) ∈ ρ)
    (hi : Ev c n sc ρ (some (a, .lst ds)) i (.int k)) (hk0 : 0 ≤ k) (hk1 : k < 2 ^ 63) (h0 : ds[k.toNat]? = some (.int v0)) (hv : Ev c n sc ρ (some (a, .lst ds)) value (.int v)) (hd : (x == ("__debug__" : Str)) = false)
    (ha : ∀ ov iv new, augStore i ov iv new = (do holding [new, ov, iv] (setItem ov iv new); release [new, ov, iv] []; pure .next))
    (kk : ∀ s', St c s₀ g own F₀ env ρ (some (a, .lst (ds.set k.toNat (.int (v0 + v))))) s' → Ex c A env rest Q E s') : Ex c A env (.AugAssign (.Subscript (.Name x xp) i tp) .Add value pos :: rest) Q E s := by
  refine ex_step (wpAny_AugAssign_Subscript_any (wpAny_mono ((Ev.var hx hd).run f.ok A E env s₀ g own F₀ s f.hsc f.ev f.room S) (fun v2 s1 q2 => ?_) fun _ _ e => e) ha) kk
  have S1 := S.more q2.1
  refine wpAny_mono (hi.run f.ok A E env s₀ g own F₀ s1 f.hsc f.ev f.room S1) (fun v3 s2 q3 => ?_) fun _ _ e => e
  have S2 := S1.more q3.1
  obtain ⟨_, r2⟩ := q2; obtain ⟨_, r3⟩ := q3
  (first | refine Rep.eint r2 fun _ => ?_ | refine Rep.eptr r2 ?_ | refine Rep.estr r2 fun _ => ?_ | refine Rep.eflt r2 fun _ => ?_ | refine Rep.ebool r2 ?_); (first | refine Rep.eint r3 fun _ => ?_ | refine Rep.eptr r3 ?_ | refine Rep.estr r3 fun _ => ?_ | refine Rep.eflt r3 fun _ => ?_ | refine Rep.ebool r3 ?_)
  obtain ⟨_, _, vs, nn, ho, q⟩ := S2.mtd a _ rfl
  obtain ⟨vv, hvv, rv⟩ := q.get h0
  obtain ⟨_, rfl⟩ := rv.inv
  have hl : s2.heap.IsList a vs.toArray := ⟨_, ho, rfl, nn, rfl⟩
  refine wpAny_getItem_list hl hk0 hk1 (by simpa using hvv) ?_
  refine wpAny_mono (hv.run f.ok A E env s₀ g own F₀ s2 f.hsc f.ev f.room S2) (fun v4 s4 q4 => ?_) fun _ _ e => e
  have S4 := S2.more q4.1
  obtain ⟨k4, r4⟩ := q4
  (first | refine Rep.eint r4 fun _ => ?_ | refine Rep.eptr r4 ?_ | refine Rep.estr r4 fun _ => ?_ | refine Rep.eflt r4 fun _ => ?_ | refine Rep.ebool r4 ?_)
  refine wpAny_mono (InpV.add.run c.prog c.w A E (own ++ F₀) s4 _ _ f.room.handled (S4.nolimit f.ok) S4.lives (.int v0 _) (.int v _)) (fun v5 s5 q5 => ?_) fun _ _ e => e
  obtain ⟨k5, r5⟩ := q5
  (first | refine Rep.eint r5 fun _ => ?_ | refine Rep.eptr r5 ?_ | refine Rep.estr r5 fun _ => ?_ | refine Rep.eflt r5 fun _ => ?_ | refine Rep.ebool r5 ?_)
  have S5 := S4.more k5
  obtain ⟨h1, h2, vs', nn', ho', q'⟩ := S5.mtd a _ rfl
  have hlen : k.toNat < vs'.length := by rw [q'.length]; exact (List.getElem?_eq_some_iff.mp h0).1
  have hA : a ∈ own ++ F₀ := List.mem_append_left _ h1
  refine setItem_plain ho' hk0 hk1 hlen fun h' n' ho2 hs => ⟨rfl, ?_⟩
  have hle : Le (own ++ F₀) s5.heap h' := fun p o hp e => (hs.2 p (fun q => hp (q ▸ hA))).trans e
  exact S5.mutate ⟨h', _, rfl⟩ hs ⟨_, n', ho2, (q'.le hle).set (.int _ _)⟩
end
end Mine

namespace Mine

theorem intsOf {F : List Addr} {h : Heap} : ∀ {vs : List Value} {ns : List Int}, RepL F h vs (ns.map D.int) → IntsAre vs ns := by
  intro vs ns
  induction ns generalizing vs with
  | nil => intro r; exact RepL.e0 (P := fun vs => IntsAre vs []) r .nil
  | cons n ns ih => intro r; exact RepL.ec (P := fun vs => IntsAre vs (n :: ns)) r fun v us x y => Rep.eint (P := fun v => IntsAre (v :: us) (n :: ns)) x fun t => .cons _ _ (ih y)
theorem pairsOf : ∀ {vs : List Value} {ns : List Int}, IntsAre vs ns → ∃ xs : List (Int × Tok), vs = xs.map (fun p => Value.int p.1 p.2) ∧ ns = xs.map (·.1)
  | _, _, .nil => ⟨[], rfl, rfl⟩
  | _, _, .cons i t r => by
    obtain ⟨xs, rfl, rfl⟩ := pairsOf r
    exact ⟨(i, t) :: xs, rfl, rfl⟩
theorem preSum_list (xs : List (Int × Tok)) : ∀ k, k ≤ xs.length → preSum (numAt xs.toArray) k = ((xs.take k).map (·.1)).sum
  | 0, _ => rfl
  | k + 1, h => by
    have hk : k < xs.length := h
    show preSum (numAt xs.toArray) k + numAt xs.toArray k = _
    rw [preSum_list xs k (Nat.le_of_lt hk), List.take_add_one, List.getElem?_eq_getElem hk, List.map_append, List.sum_append]
    have e : numAt xs.toArray k = xs[k].1 := by simp [numAt, hk]
    rw [e]; simp

theorem CallV.sum {ns : List Int} : CallV (.builtin "sum") [.lst (ns.map .int)] (.int ns.sum) := .mk fun prog w A E F s vs hh hu hl live r => by
  refine RepL.e1 r fun v r1 => ?_
  · skip
    refine Rep.elst r1 fun a vs n ha ho q => ?_
    · skip
      obtain ⟨xs, e1, e2⟩ := pairsOf (intsOf q)
      have hl' : s.heap.IsList a (intItems xs.toArray) := ⟨_, ho, rfl, n, by simp [intItems, e1]⟩
      refine sum_intListG hh hl' fun h' tk t' hk => ⟨⟨h', tk, rfl, hk⟩, ?_⟩
      have e3 : preSum (numAt xs.toArray) xs.toArray.size = ns.sum := by
        have := preSum_list xs xs.length (Nat.le_refl _)
        rw [List.take_length, ← e2] at this
        simpa using this
      rw [e3]
      exact .int _ _
theorem CallV.max2 {a b : Int} : CallV (.builtin "max") [.int a, .int b] (.int (if b > a then b else a)) := .mk fun prog w A E F s vs hh hu hl live r => by
  refine RepL.e2 r fun v r1 u r2 => ?_
  refine Rep.eint r1 fun _ => ?_
  refine Rep.eint r2 fun _ => ?_
  · · skip
      refine max_two_ints hh fun h' tk hk => ⟨⟨h', tk, rfl, hk⟩, ?_⟩
      split
      · exact .int _ _
      · exact .int _ _

noncomputable def fgt (a b : UInt64) : Bool := Float64.cmp a b == some Ordering.gt
noncomputable def fltB (a b : UInt64) : Bool := Float64.cmp a b == some Ordering.lt
noncomputable def fAt (xs : List UInt64) (i : Nat) : UInt64 := (xs[i]?).getD 0
theorem cmp_gt {prog : Program} {w : World} {A : Around} {P : Nat → Value → Prop} (val : Nat → UInt64) (hval : ∀ i v, P i v → ∃ t, v = .float (val i) t) : CmpOf prog w A .Gt P (fun i j => fgt (val i) (val j)) := fun i j vi vj s Q E hi hj h => by
  obtain ⟨t, rfl⟩ := hval i vi hi
  obtain ⟨u, rfl⟩ := hval j vj hj
  exact richCompare_gives (op := .Gt) (typeIs_float s _ t) (typeIs_float s _ u) F.slot_float_gt F.entry_float_gt (F.args_float_gt_2 _ _) (AutoFloatG4.float___gt___float_float_0 _ t _ u) (fun x => nomatch x) h
theorem cmp_lt {prog : Program} {w : World} {A : Around} {P : Nat → Value → Prop} (val : Nat → UInt64) (hval : ∀ i v, P i v → ∃ t, v = .float (val i) t) : CmpOf prog w A .Lt P (fun i j => fltB (val i) (val j)) := fun i j vi vj s Q E hi hj h => by
  obtain ⟨t, rfl⟩ := hval i vi hi
  obtain ⟨u, rfl⟩ := hval j vj hj
  exact richCompare_gives (op := .Lt) (typeIs_float s _ t) (typeIs_float s _ u) F.slot_float_lt F.entry_float_lt (F.args_float_lt_2 _ _) (AutoFloatG5.float___lt___float_float_0 _ t _ u) (fun x => nomatch x) h
noncomputable def fmax3 (a b c : UInt64) : UInt64 := if fgt b a then (if fgt c b then c else b) else (if fgt c a then c else a)
noncomputable def fmin3 (a b c : UInt64) : UInt64 := if fltB b a then (if fltB c b then c else b) else (if fltB c a then c else a)
noncomputable def best3 (p : UInt64 → UInt64 → Bool) (a b c : UInt64) : UInt64 := if p b a then (if p c b then c else b) else (if p c a then c else a)
theorem best3_at (p : UInt64 → UInt64 → Bool) (a b c : UInt64) : fAt [a, b, c] (argBest (fun i j => p (fAt [a, b, c] i) (fAt [a, b, c] j)) 2) = best3 p a b c ∧ argBest (fun i j => p (fAt [a, b, c] i) (fAt [a, b, c] j)) 2 < 3 := by
  unfold best3
  simp only [argBest]
  have e0 : fAt [a, b, c] 0 = a := rfl
  have e1 : fAt [a, b, c] 1 = b := rfl
  have e2 : fAt [a, b, c] 2 = c := rfl
  simp only [e0, Nat.zero_add, e1, Nat.reduceAdd]
  cases h : p b a with
  | true =>
    simp only [if_true, e1, e2]
    cases h2 : p c b <;> simp [e1, e2]
  | false =>
    simp only [Bool.false_eq_true, if_false, e0, e2]
    cases h2 : p c a <;> simp [e0, e2]
theorem three_step {prog : Program} {w : World} {A : Around} {s : Shared} {E : Value → Shared → Prop} {Q : Value → Shared → Prop} {a b c : UInt64} {t u x : Tok} (op : CmpOp) (p : UInt64 → UInt64 → Bool) (hh : A.handled = none)
    (hc : ∀ {P : Nat → Value → Prop} (val : Nat → UInt64), (∀ i v, P i v → ∃ t, v = .float (val i) t) → CmpOf prog w A.in1 op P (fun i j => p (val i) (val j)))
    (h : ∀ h' tk t', (∀ d o, s.heap.get? d = some o → h'.get? d = some o) → Q (.float (best3 p a b c) t') { s with heap := h', toks := tk }) :
    wpAny (model prog w) A.in1 (pyIter (.ref s.heap.objs.size)) (fun it s₂ => ∃ I fp wr n P St bt, it = .ref I ∧ Walks prog w A.in1 I fp wr n P St ∧ St 0 s₂.heap ∧ (∀ b ∈ fp, b < s₂.heap.objs.size) ∧ 0 < n ∧ CmpOf prog w A.in1 op P bt ∧
      ∀ v h' tk, P (argBest bt (n - 1)) v → (∀ b o, b ∉ wr → s₂.heap.get? b = some o → h'.get? b = some o) → Q v { s₂ with heap := h', toks := tk }) E
      { s with heap := s.heap.push { cls := .type "tuple", data := .seq #[.float a t, .float b u, .float c x] } } := by
  have hT : (s.heap.push { cls := .type "tuple", data := .seq #[.float a t, .float b u, .float c x] }).IsTuple s.heap.objs.size #[.float a t, .float b u, .float c x] := ⟨_, Heap.get?_push_size _ rfl, rfl, 0, rfl⟩
  have hsz : (s.heap.push { cls := .type "tuple", data := .seq #[.float a t, .float b u, .float c x] }).objs.size = s.heap.objs.size + 1 := Heap.size_push ..
  have hval : ∀ i v, (#[Value.float a t, .float b u, .float c x] : Array Value)[i]? = some v → ∃ t, v = Value.float (fAt [a, b, c] i) t := fun i v e => by
    match i, e with
    | 0, e => exact ⟨t, by simpa [fAt] using e.symm⟩
    | 1, e => exact ⟨u, by simpa [fAt] using e.symm⟩
    | 2, e => exact ⟨x, by simpa [fAt] using e.symm⟩
    | i + 3, e => simp at e
  refine wpAny_pyIter_tuple hT ?_
  refine ⟨_, [_, s.heap.objs.size], [_], _, _, _, _, rfl, Walks.tuple (A := A.in1) hh _ s.heap.objs.size (by rw [hsz]; exact Nat.ne_of_lt (Nat.lt_succ_self _)) #[.float a t, .float b u, .float c x],
    ⟨⟨_, Heap.get?_push_size _ rfl, rfl, rfl⟩, hT.push _⟩, fun d hd => ?_, by simp, hc (fAt [a, b, c]) hval, fun v h' tk hP hk => ?_⟩
  · show d < ((s.heap.push _).push _).objs.size
    rw [Heap.size_push, hsz]
    rcases List.mem_cons.mp hd with rfl | hd
    · rw [hsz]; exact Nat.lt_succ_self _
    · rcases List.mem_cons.mp hd with rfl | hd
      · exact Nat.lt_succ_of_lt (Nat.lt_succ_self _)
      · cases hd
  · have hold : ∀ d o, s.heap.get? d = some o → h'.get? d = some o := fun d o e => by
      refine hk d o (fun hm => ?_) (Heap.get?_push_of_some _ (Heap.get?_push_of_some _ e))
      rcases List.mem_cons.mp hm with e1 | hm
      · have := Heap.lt_size e; rw [e1, hsz] at this; exact Nat.lt_irrefl _ (Nat.lt_of_succ_lt this)
      · cases hm
    obtain ⟨t', e⟩ := hval _ _ hP
    have hb := (best3_at p a b c).1
    have hn : #[Value.float a t, .float b u, .float c x].size - 1 = 2 := rfl
    rw [hn, hb] at e
    rw [e]
    exact h h' tk t' hold
theorem CallV.max3 {a b c : UInt64} : CallV (.builtin "max") [.flt a, .flt b, .flt c] (.flt (best3 fgt a b c)) := .mk fun prog w A E F s vs hh hu hl live r => by
  refine RepL.e3 r fun v r1 u r2 w' r3 => ?_
  refine Rep.eflt r1 fun _ => ?_
  refine Rep.eflt r2 fun _ => ?_
  refine Rep.eflt r3 fun _ => ?_
  exact call_max_three (three_step (Q := fun v s' => Keeps s s' ∧ Rep F s'.heap v (.flt (best3 fgt a b c))) .Gt fgt hh (fun val hv => cmp_gt val hv) fun h' tk t' hk => ⟨⟨h', tk, rfl, hk⟩, .flt _ _⟩)
theorem CallV.min3 {a b c : UInt64} : CallV (.builtin "min") [.flt a, .flt b, .flt c] (.flt (best3 fltB a b c)) := .mk fun prog w A E F s vs hh hu hl live r => by
  refine RepL.e3 r fun v r1 u r2 w' r3 => ?_
  refine Rep.eflt r1 fun _ => ?_
  refine Rep.eflt r2 fun _ => ?_
  refine Rep.eflt r3 fun _ => ?_
  exact call_min_three (three_step (Q := fun v s' => Keeps s s' ∧ Rep F s'.heap v (.flt (best3 fltB a b c))) .Lt fltB hh (fun val hv => cmp_lt val hv) fun h' tk t' hk => ⟨⟨h', tk, rfl, hk⟩, .flt _ _⟩)
end Mine

namespace Mine

theorem SubV.str {x : Str} {i : Int} (hr : fitsSsize i = true) (hin : (Txt.charAt x i).isSome = true) : SubV (.str x) (.int i) (.str (Txt.item x i)) := .mk fun prog w A E F s value slice v1 v2 hh hs r1 r2 => by
  (first | refine Rep.eint r1 fun _ => ?_ | refine Rep.eptr r1 ?_ | refine Rep.estr r1 fun _ => ?_ | refine Rep.eflt r1 fun _ => ?_ | refine Rep.ebool r1 ?_); (first | refine Rep.eint r2 fun _ => ?_ | refine Rep.eptr r2 ?_ | refine Rep.estr r2 fun _ => ?_ | refine Rep.eflt r2 fun _ => ?_ | refine Rep.ebool r2 ?_)
  exact tail_any (typeIs_str _ _ _) PySem.F.slot_str_getitem.lookup (SB.getItem hr hin ⟨kpTok s _, .str _ _⟩) (hs _ _)

section
variable {c : Cx} {n : Nat} {sc : Scope} {s₀ s : Shared} {g : Addr → Option Obj} {own F₀ : List Addr} {env : Env} {ρ ρ' : Vars} {mu mu' : Option (Addr × M)} {A : Around} {E : Value → Shared → Prop} {Q : Flow → Shared → Prop} {rest : List Stmt}

theorem Ev.neg {e : Expr} {pos : Pos} {i : Int} (h : Ev c n sc ρ mu e (.int i)) : Ev c n sc ρ mu (.UnaryOp .USub e pos) (.int (-i)) := .mk fun ok A E env s₀ g own F₀ s hsc ev room S => by
  refine wpAny_UnaryOp (wpAny_mono (h.run ok A E env s₀ g own F₀ s hsc ev room S) (fun v s1 q1 => ?_) fun _ _ e => e)
  obtain ⟨k1, r1⟩ := q1
  (first | refine Rep.eint r1 fun _ => ?_ | refine Rep.eptr r1 ?_ | refine Rep.estr r1 fun _ => ?_ | refine Rep.eflt r1 fun _ => ?_ | refine Rep.ebool r1 ?_)
  exact P.neg_int ⟨kpTrans k1 (kpTok s1 _), .int _ _⟩

/-- a bound of a slice -/
structure PartE (c : Cx) (n : Nat) (sc : Scope) (ρ : Vars) (mu : Option (Addr × M)) (e : Option Expr) (i : Option Int) : Prop where
  mk ::
  run : c.Ok → ∀ (A : Around) (E : Value → Shared → Prop) (env : Env) (s₀ : Shared) (g : Addr → Option Obj) (own F₀ : List Addr) (s : Shared), env.scope = sc → EnvOk env → Room A n → St c s₀ g own F₀ env ρ mu s →
    wpAny (model c.prog c.w) A (evalPart e env) (fun v s' => Keeps s s' ∧ ∃ l : Option (Int × Tok), v = partValue l ∧ l.map (·.1) = i) E s
theorem PartE.none : PartE c n sc ρ mu none none := .mk fun ok A E env s₀ g own F₀ s hsc ev room S => wpAny_pure ⟨kpRefl s, Option.none, rfl, rfl⟩
theorem PartE.some {e : Expr} {i : Int} (h : Ev c n sc ρ mu e (.int i)) : PartE c n sc ρ mu (some e) (some i) := .mk fun ok A E env s₀ g own F₀ s hsc ev room S => by
  refine wpAny_mono (h.run ok A E env s₀ g own F₀ s hsc ev room S) (fun v s1 q1 => ?_) fun _ _ e => e
  obtain ⟨k1, r1⟩ := q1
  (first | refine Rep.eint r1 fun _ => ?_ | refine Rep.eptr r1 ?_ | refine Rep.estr r1 fun _ => ?_ | refine Rep.eflt r1 fun _ => ?_ | refine Rep.ebool r1 ?_)
  exact ⟨k1, Option.some (i, _), rfl, rfl⟩

theorem Ev.sliceS {value : Expr} {lower upper : Option Expr} {p pos : Pos} {x : Str} {l u : Option Int} (h : Ev c n sc ρ mu value (.str x)) (hl : PartE c n sc ρ mu lower l) (hu : PartE c n sc ρ mu upper u) (hz : x.length ≤ 1000)
    (ht : ∀ o r, letTemporaryGo value o r = pure () := by intro _ _; rfl) : Ev c n sc ρ mu (.Subscript value (.Slice lower upper none p) pos) (.str (Txt.slice x l u)) := .mk fun ok A E env s₀ g own F₀ s hsc ev room S => by
  refine wpAny_Subscript_str_slice (wpAny_mono (h.run ok A E env s₀ g own F₀ s hsc ev room S) (fun v s1 q1 => ?_) fun _ _ e => e) ht
  obtain ⟨k1, r1⟩ := q1
  (first | refine Rep.eint r1 fun _ => ?_ | refine Rep.eptr r1 ?_ | refine Rep.estr r1 fun _ => ?_ | refine Rep.eflt r1 fun _ => ?_ | refine Rep.ebool r1 ?_)
  have S1 := S.more k1
  refine wpAny_mono (hl.run ok A E env s₀ g own F₀ s1 hsc ev room S1) (fun vl s2 q2 => ?_) fun _ _ e => e
  obtain ⟨k2, l', rfl, rfl⟩ := q2
  have S2 := S1.more k2
  refine wpAny_mono (hu.run ok A E env s₀ g own F₀ s2 hsc ev room S2) (fun vu s3 q3 => ?_) fun _ _ e => e
  obtain ⟨k3, u', rfl, rfl⟩ := q3
  refine ⟨x, _, l', u', rfl, rfl, rfl, ?_⟩
  have k : Keeps s { s3 with heap := s3.heap.push { cls := .type "slice", data := .fields #[partValue l', partValue u', .none] } } := kpTrans k1 (kpTrans k2 (kpTrans k3 (kpPush s3 _)))
  have hlen : (Txt.slice x (l'.map (·.1)) (u'.map (·.1))).length ≤ sizeLine := Nat.le_trans (Txt.slice_le _ _ _) (by rw [sizeLine_eq]; omega)
  unfold sliceMade
  unfold Txt.slice at hlen ⊢
  simp only [Option.map_none, Option.getD_none, slicePicked] at hlen ⊢
  have e1 : ((1 : Int) == 1) = true := by decide
  simp only [e1, Bool.true_and] at hlen ⊢
  cases hc : ((Builtin.Str.strSliceIndices (Option.map (fun x => x.fst) l') (Option.map (fun x => x.fst) u') 1 x.length).length == x.length) with
  | true =>
    simp only [if_true]
    exact ⟨k, .str _ _⟩
  | false =>
    simp only [hc, Bool.false_eq_true, if_false] at hlen ⊢
    exact ⟨hlen, kpTrans k (kpTok _ _), .str _ _⟩

theorem Ev.sliceL {value : Expr} {upper : Expr} {p pos : Pos} {ds : List D} {k : Nat} (h : Ev c n sc ρ mu value (.lst ds)) (hu : Ev c n sc ρ mu upper (.int k)) (hk : k ≤ ds.length) (hz : ds.length ≤ 1000)
    (ht : ∀ o r, letTemporaryGo value o r = pure () := by intro _ _; rfl) : Ev c n sc ρ mu (.Subscript value (.Slice none (some upper) none p) pos) (.lst (ds.take k)) := .mk fun ok A E env s₀ g own F₀ s hsc ev room S => by
  refine wpAny_Subscript_list_slice (wpAny_mono (h.run ok A E env s₀ g own F₀ s hsc ev room S) (fun v s1 q1 => ?_) fun _ _ e => e) ht
  obtain ⟨k1, r1⟩ := q1
  have S1 := S.more k1
  rw [evalPart_none]
  refine wpAny_pure (wpAny_mono (hu.run ok A E env s₀ g own F₀ s1 hsc ev room S1) (fun vu s3 q3 => ?_) fun _ _ e => e)
  obtain ⟨k3, r3⟩ := q3
  have S3 := S1.more k3
  have r1' := r1.keeps (kpLe k3)
  (first | refine Rep.eint r3 fun _ => ?_ | refine Rep.eptr r3 ?_ | refine Rep.estr r3 fun _ => ?_ | refine Rep.eflt r3 fun _ => ?_ | refine Rep.ebool r3 ?_)
  cases r1' with
  | lst ha ho q =>
    rename_i t a vs nn
    have hlen : vs.length = ds.length := q.length
    refine ⟨a, vs.toArray, none, some k, rfl, ⟨_, ho, rfl, nn, rfl⟩, by simp [hlen, sizeLine_eq]; omega, .none, .int _ _, ?_⟩
    have e : (slicePick vs.toArray none (some (k : Int)) none) = (vs.take k).toArray := by
      rw [kmk_pick_nat vs.toArray (a := 0) (b := k)]
      · simp
      · have h1 : ¬ ((k : Int) < 0) := by omega
        have h2 : max (0 : Int) (min (k : Int) (vs.length : Int)) = k := by omega
        simp [sliceBounds, h1, h2]
    rw [e]
    refine ⟨kpTrans k1 (kpTrans k3 (kpTrans (kpPush s3 { cls := .type "slice", data := .fields #[.none, .int k t, .none] }) (kpPush _ _))), .lst (vs := vs.take k) (n := 0) ?_ ?_ ?_⟩
    · intro m
      obtain ⟨o, e⟩ := S3.lives _ m
      exact Nat.lt_irrefl _ (Nat.lt_of_succ_lt (Heap.lt_size e))
    · have := Heap.get?_push_size (o := lstO (vs.take k) 0) (s3.heap.push { cls := .type "slice", data := .fields #[.none, .int k t, .none] }) rfl
      rw [Heap.size_push] at this
      exact this
    · exact (q.take k).keeps fun _ _ e => Heap.get?_push_of_some _ (Heap.get?_push_of_some _ e)

/-- x.find(e) -/
theorem Ev.find {o e : Expr} {ap pos : Pos} {x y : Str} (ho : Ev c n sc ρ mu o (.str x)) (he : Ev c n sc ρ mu e (.str y)) (hs : ∀ env, starEach [e] env = [(false, eval e env)]) (hline : (ap.endLine == pos.line) = true)
    (hbase : ∀ env, attributeBase o "find" env (eval o env) = eval o env) : Ev c n sc ρ mu (.Call (.Attribute o "find" ap) [e] [] pos) (.int (Txt.find x y)) := .mk fun ok A E env s₀ g own F₀ s hsc ev room S => by
  refine Call_method1 (hbase env) (hs env) hline (wpAny_mono (ho.run ok A E env s₀ g own F₀ s hsc ev room S) (fun v s1 q1 => ?_) fun _ _ e => e)
  obtain ⟨k1, r1⟩ := q1
  (first | refine Rep.eint r1 fun _ => ?_ | refine Rep.eptr r1 ?_ | refine Rep.estr r1 fun _ => ?_ | refine Rep.eflt r1 fun _ => ?_ | refine Rep.ebool r1 ?_)
  refine SB.find (wpAny_mono (he.run ok A E env s₀ g own F₀ s1 hsc ev room (S.more k1)) (fun v s2 q2 => ?_) fun _ _ e => e)
  obtain ⟨k2, r2⟩ := q2
  (first | refine Rep.eint r2 fun _ => ?_ | refine Rep.eptr r2 ?_ | refine Rep.estr r2 fun _ => ?_ | refine Rep.eflt r2 fun _ => ?_ | refine Rep.ebool r2 ?_)
  exact ⟨y, _, rfl, kpTrans k1 (kpTrans k2 (kpTok s2 _)), .int _ _⟩

theorem Ev.items {o : Expr} {ap pos : Pos} {kvs : List (Int × Int)} (ho : Ev c n sc ρ mu o (.dct kvs)) (hline : (ap.endLine == pos.line) = true) (hbase : ∀ env, attributeBase o "items" env (eval o env) = eval o env) :
    Ev c n sc ρ mu (.Call (.Attribute o "items" ap) [] [] pos) (.its kvs) := .mk fun ok A E env s₀ g own F₀ s hsc ev room S => by
  refine Call_method0 (hbase env) hline (wpAny_mono (ho.run ok A E env s₀ g own F₀ s hsc ev room S) (fun v s1 q1 => ?_) fun _ _ e => e)
  obtain ⟨k1, r1⟩ := q1
  have S1 := S.more k1
  refine Rep.edct r1 fun a es nn ha hm hoo e hn => ?_
  · skip
    obtain ⟨ks, hd, hkv⟩ := dictOf_mk (prog := c.prog) (w := c.w) hoo e hn
    refine ⟨"dict", "dict.items", F.plainAttrs_dict, F.slot_dict_items, F.type_dict_items, hd.typeIs, hd.mapOf.noDict, ?_⟩
    exact method_meetsIn F.slot_dict_items F.entry_dict_items rfl (PySem.evalArgs_none ⟨rfl, hd.typeIs, F.args_dict_items_1 _, _, meets_dict_items (intKind c.prog c.w) a hm, ⟨ks, hd⟩, kpTrans k1 (kpPush s1 _),
      .its S1.lives.off (Heap.get?_push_size _ rfl) ha (Heap.get?_push_of_some _ hoo) e hn⟩)
theorem Ev.values {o : Expr} {ap pos : Pos} {kvs : List (Int × Int)} (ho : Ev c n sc ρ mu o (.dct kvs)) (hline : (ap.endLine == pos.line) = true) (hbase : ∀ env, attributeBase o "values" env (eval o env) = eval o env) :
    Ev c n sc ρ mu (.Call (.Attribute o "values" ap) [] [] pos) (.vals kvs) := .mk fun ok A E env s₀ g own F₀ s hsc ev room S => by
  refine Call_method0 (hbase env) hline (wpAny_mono (ho.run ok A E env s₀ g own F₀ s hsc ev room S) (fun v s1 q1 => ?_) fun _ _ e => e)
  obtain ⟨k1, r1⟩ := q1
  have S1 := S.more k1
  refine Rep.edct r1 fun a es nn ha hm hoo e hn => ?_
  · skip
    obtain ⟨ks, hd, hkv⟩ := dictOf_mk (prog := c.prog) (w := c.w) hoo e hn
    refine ⟨"dict", "dict.values", F.plainAttrs_dict, F.slot_dict_values, F.type_dict_values, hd.typeIs, hd.mapOf.noDict, ?_⟩
    exact method_meetsIn F.slot_dict_values F.entry_dict_values rfl (PySem.evalArgs_none ⟨rfl, hd.typeIs, F.args_dict_values_1 _, _, meets_dict_values (intKind c.prog c.w) a hm, ⟨ks, hd⟩, kpTrans k1 (kpPush s1 _),
      .vals S1.lives.off (Heap.get?_push_size _ rfl) ha (Heap.get?_push_of_some _ hoo) e hn⟩)
end
end Mine

namespace Mine

section
variable {c : Cx} {n : Nat} {sc : Scope} {s₀ s : Shared} {g : Addr → Option Obj} {own F₀ : List Addr} {env : Env} {ρ ρ' : Vars} {mu mu' : Option (Addr × M)} {A : Around} {E : Value → Shared → Prop} {Q : Flow → Shared → Prop} {rest : List Stmt}

theorem Ev.dict1 {k v : Expr} {pos : Pos} {i j : Int} (hk : Ev c n sc ρ mu k (.int i)) (hv : Ev c n sc ρ mu v (.int j)) (hb0 : ∃ b o, sysModules < b ∧ c.K.lookup b = some o) : Ev c n sc ρ mu (.Dict [some k] [v] pos) (.dct [(i, j)]) := .mk fun ok A E env s₀ g own F₀ s hsc ev room S => by
  have kp0 : Keeps s { s with heap := s.heap.push (dctO [] 0) } := kpPush s _
  have S0 := S.more kp0
  have hat : (s.heap.push (dctO [] 0)).get? s.heap.objs.size = some (dctO [] 0) := Heap.get?_push_size _ rfl
  refine wpAny_Dict_pairs (knd := intKind c.prog c.w) (pairs := [(eval k env, do let x ← eval v env; standAt pos; pure x)]) rfl (by simp) (by simp) ?_
  refine evalPairs_cons (wpAny_mono (hk.run ok A E env s₀ g own F₀ _ hsc ev room S0) (fun kv s1 q1 => ?_) fun _ _ e => e)
  have S1 := S0.more q1.1
  refine wpAny_bind (wpAny_mono (hv.run ok A E env s₀ g own F₀ s1 hsc ev room S1) (fun vv s2 q2 => wpAny_bind (wpAny_standAt (wpAny_pure (evalPairs_nil ?_)))) fun _ _ e => e)
  obtain ⟨k1, r1⟩ := q1
  obtain ⟨k2, r2⟩ := q2
  (first | refine Rep.eint r1 fun _ => ?_ | refine Rep.eptr r1 ?_ | refine Rep.estr r1 fun _ => ?_ | refine Rep.eflt r1 fun _ => ?_ | refine Rep.ebool r1 ?_); (first | refine Rep.eint r2 fun _ => ?_ | refine Rep.eptr r2 ?_ | refine Rep.estr r2 fun _ => ?_ | refine Rep.eflt r2 fun _ => ?_ | refine Rep.ebool r2 ?_)
  rename_i t u
  have hat2 := kpLe k2 _ _ (kpLe k1 _ _ hat)
  obtain ⟨ks, hd, hkv⟩ := dictOf_mk (prog := c.prog) (w := c.w) hat2 .nil .nil
  cases hkv
  refine ⟨[(i, .int j u)], ⟨by simp [intKind, Value.isInt], rfl, trivial⟩, hd, fun h' hd' hs => ?_⟩
  have hst : KV (merged [] [(i, Value.int j u)]) [(i, j)] := .cons .nil
  obtain ⟨es', n', ho', e', hn'⟩ := dictOf_back hd' hst
  have hsame : Same s { s2 with heap := h', toks := s2.toks + [(Value.int i t, Value.int j u)].length } := ((kpSame kp0).trans ((kpSame k1).trans (kpSame k2))).trans ⟨_, _, rfl⟩
  refine ⟨kpOf hsame fun b o e => ?_, .dct S.lives.off ?_ ho' e' hn'⟩
  · have hne : b ≠ s.heap.objs.size := Nat.ne_of_lt (Heap.lt_size e)
    exact (hs.2 b hne).trans (kpLe k2 _ _ (kpLe k1 _ _ (kpLe kp0 _ _ e)))
  · obtain ⟨b, o, hb, e⟩ := hb0
    have := Nat.lt_trans hb (Heap.lt_size (S.b0 _ _ (ok.X _ _ e)))
    exact beq_false_of_ne (Nat.ne_of_gt this)
end
end Mine

namespace Mine

section
variable {c : Cx} {n : Nat} {sc : Scope} {s₀ s : Shared} {g : Addr → Option Obj} {own F₀ : List Addr} {env : Env} {A : Around} {E : Value → Shared → Prop} {Q : Flow → Shared → Prop} {rest : List Stmt}

theorem ex_forR {x : Str} {p pos : Pos} {iter : Expr} {body : List Stmt} {a b : Int} {N : Nat} {ρ ρ' : Nat → Vars} {mu : Nat → Option (Addr × M)} {stop : Nat → Prop} {dr : Nat → D}
    (f : Fm c n sc env own A) (S : St c s₀ g own F₀ env (ρ 0) (mu 0) s) (hit : Ev c n sc (ρ 0) (mu 0) iter (.rng a b)) (hn : (if a < b then b - a else 0) = (N : Int)) (ha : -(2 ^ 62) ≤ a) (ha' : a < 2 ^ 62) (hb : -(2 ^ 62) ≤ b) (hb' : b < 2 ^ 62)
    (hU : ∀ i, i < N → Upd1 x (.int (a + (i : Int))) (ρ i) (ρ' i)) (hk : sc.names.lookup x = some .local ∨ sc.names.lookup x = some .cell)
    (hbody : ∀ (E : Value → Shared → Prop) i g' F₁ s', i < N → St c s₀ g' own F₁ env (ρ' i) (mu i) s' → Ex c A env body (LoopPost c s₀ g' own F₁ env (ρ (i + 1)) (mu (i + 1)) (stop i) (dr i)) E s')
    (hdone : ∀ s', St c s₀ g own F₀ env (ρ N) (mu N) s' → Ex c A env rest Q E s')
    (hret : ∀ i v s', i < N → stop i → St c s₀ g own F₀ env [] none s' → Rep (own ++ F₀) s'.heap v (dr i) → Q (.ret v) s')
    (hs : ∀ v, foldedSetIterable iter env v = pure v) : Ex c A env (.For (.Name x p) iter body [] pos :: rest) Q E s := by
  refine ex_for (ρ := ρ) (ρ' := ρ') (mu := mu) (stop := stop) (dr := dr) f S hit (IterV.rng rfl hn ha ha' hb hb') (fun E i v g' F₁ s' hi S' r => ?_) hbody hdone hret hs
  obtain ⟨d, hd, rd⟩ := r
  rw [List.getElem?_map, List.getElem?_range hi] at hd
  obtain rfl : D.int (a + (i : Int)) = d := by simpa using hd
  exact (Asg.name (o := fun _ => true) (hU i hi) (hk.imp id fun h => ⟨h, rfl⟩)).run A E env s₀ g' own F₁ s' v f.hsc f.ev (fun y _ hy => f.oc.at (by unfold Env.kindOf; rw [f.hsc]; exact hy)) f.room.handled S' rd

theorem ex_forL {α : Type} {target iter : Expr} {body : List Stmt} {pos : Pos} {items : List α} {emb : α → D} {ρ ρ' : Nat → Vars} {mu : Nat → Option (Addr × M)} {stop : Nat → Prop} {dr : Nat → D}
    (f : Fm c n sc env own A) (S : St c s₀ g own F₀ env (ρ 0) (mu 0) s) (hit : Ev c n sc (ρ 0) (mu 0) iter (.lst (items.map emb))) (hq : Quiet target)
    (ha : ∀ i a, items[i]? = some a → Asg c sc (fun _ => true) (mu i) target (emb a) (ρ i) (ρ' i))
    (hbody : ∀ (E : Value → Shared → Prop) i a g' F₁ s', items[i]? = some a → St c s₀ g' own F₁ env (ρ' i) (mu i) s' → Ex c A env body (LoopPost c s₀ g' own F₁ env (ρ (i + 1)) (mu (i + 1)) (stop i) (dr i)) E s')
    (hdone : ∀ s', St c s₀ g own F₀ env (ρ items.length) (mu items.length) s' → Ex c A env rest Q E s')
    (hret : ∀ i v s', i < items.length → stop i → St c s₀ g own F₀ env [] none s' → Rep (own ++ F₀) s'.heap v (dr i) → Q (.ret v) s')
    (hs : ∀ v, foldedSetIterable iter env v = pure v) : Ex c A env (.For target iter body [] pos :: rest) Q E s := by
  have hl : (items.map emb).length = items.length := by simp
  refine ex_for (ρ := ρ) (ρ' := ρ') (mu := mu) (stop := stop) (dr := dr) f S hit (IterV.lst hq) (fun E i v g' F₁ s' hi S' r => ?_) (fun E i g' F₁ s' hi S' => hbody E i items[i] g' F₁ s' (by rw [hl] at hi; simp [hi]) S') (fun s' S' => hdone s' (by rw [hl] at S'; exact S')) (fun i v s' hi => hret i v s' (by rw [hl] at hi; exact hi)) hs
  obtain ⟨d, hd, rd⟩ := r
  rw [hl] at hi
  rw [List.getElem?_map, List.getElem?_eq_getElem hi] at hd
  obtain rfl : emb items[i] = d := by simpa using hd
  exact (ha i items[i] (by simp [hi])).run A E env s₀ g' own F₁ s' v f.hsc f.ev (fun y _ hy => f.oc.at (by unfold Env.kindOf; rw [f.hsc]; exact hy)) f.room.handled S' rd
end

theorem names2 {x y : Str} {p q : Pos} : ∀ t ∈ [Expr.Name x p, Expr.Name y q], ∃ x p, t = Expr.Name x p := by
  intro t ht
  simp only [List.mem_cons, List.not_mem_nil, or_false] at ht
  rcases ht with rfl | rfl <;> exact ⟨_, _, rfl⟩
theorem names3 {x y z : Str} {p q r : Pos} : ∀ t ∈ [Expr.Name x p, Expr.Name y q, Expr.Name z r], ∃ x p, t = Expr.Name x p := by
  intro t ht
  simp only [List.mem_cons, List.not_mem_nil, or_false] at ht
  rcases ht with rfl | rfl | rfl <;> exact ⟨_, _, rfl⟩
end Mine
namespace Mine
noncomputable abbrev Tie := Int × Int × Bool
noncomputable abbrev dTie (t : Tie) : D := .tup [.int t.1, .int t.2.1, .bool t.2.2]
theorem hits_nil {x : Str} : ∀ p ∈ ([] : Vars), p.1 ≠ x := fun _ h => nomatch h
theorem hits_cons {x : Str} {q : Str × D} {r : Vars} (h : q.1 ≠ x) (hr : ∀ p ∈ r, p.1 ≠ x) : ∀ p ∈ q :: r, p.1 ≠ x := fun p m => (List.mem_cons.mp m).elim (fun e => e ▸ h) (hr p)
theorem okOnes {α : Type} (l : List α) : okD 9 (.lst (l.map fun _ => .int 1)) = true := by simp [okD]
theorem okInts9 (xs : List Int) : okD 9 (.lst (xs.map .int)) = true := by simp [okD]
theorem IterV.lstM {α : Type} {target : Expr} {items : List α} {emb : α → D} (h : Quiet target) : IterV target (.lst (items.map emb)) items.length (Items (items.map emb)) := by
  have := IterV.lst (ds := items.map emb) h
  rwa [List.length_map] at this
theorem IterV.rngM {x : Str} {p : Pos} {N : Nat} (h : N ≤ 1000000) : IterV (.Name x p) (.rng 0 (N : Int)) (List.range N).length (Items ((List.range N).map fun i : Nat => D.int (i : Int))) := by
  have := IterV.rng (target := .Name x p) rfl (a := 0) (b := (N : Int)) (n := N) (by split <;> omega) (by decide) (by decide) (by omega) (by omega)
  rw [List.length_range]
  simpa using this
theorem Quiet.name {x : Str} {p : Pos} : Quiet (.Name x p) := .inl ⟨_, _, rfl⟩
theorem Quiet.tup {ts : List Expr} {k : Nat} {p : Pos} : Quiet (.Tuple ts k p) := .inr ⟨_, _, _, rfl⟩
theorem subl_nil {l : Vars} : ∀ q ∈ ([] : Vars), q ∈ l := fun _ h => nomatch h
theorem subl_cons {p : Str × D} {r l : Vars} (h : p ∈ l) (hr : ∀ q ∈ r, q ∈ l) : ∀ q ∈ p :: r, q ∈ l := fun q m => (List.mem_cons.mp m).elim (fun e => e ▸ h) (hr q)
theorem caps_nil {l : Vars} {scope : Scope} : ∀ q ∈ ([] : Vars), q ∈ l ∧ scope.names.lookup q.1 = some .free := fun _ h => nomatch h
theorem caps_cons {p : Str × D} {r l : Vars} {scope : Scope} (h : p ∈ l) (hk : scope.names.lookup p.1 = some .free) (hr : ∀ q ∈ r, q ∈ l ∧ scope.names.lookup q.1 = some .free) : ∀ q ∈ p :: r, q ∈ l ∧ scope.names.lookup q.1 = some .free := fun q m => (List.mem_cons.mp m).elim (fun e => e ▸ ⟨h, hk⟩) (hr q)
section
variable {c : Cx} {n : Nat} {sc : Scope} {ρ : Vars} {mu : Option (Addr × M)}
theorem Ev.ifI {t x y : Expr} {pos : Pos} {b : Bool} {i j : Int} (h : Tr c n sc ρ mu t b) (h1 : Ev c n sc ρ mu x (.int i)) (h2 : Ev c n sc ρ mu y (.int j)) : Ev c n sc ρ mu (.IfExp t x y pos) (.int (if b then i else j)) :=
  Ev.ifx h (fun e => by rw [if_pos e]; exact h1) (fun e => by rw [if_neg (by simp [e])]; exact h2)
theorem Ev.ifS {t x y : Expr} {pos : Pos} {b : Bool} {i j : Str} (h : Tr c n sc ρ mu t b) (h1 : Ev c n sc ρ mu x (.str i)) (h2 : Ev c n sc ρ mu y (.str j)) : Ev c n sc ρ mu (.IfExp t x y pos) (.str (if b then i else j)) :=
  Ev.ifx h (fun e => by rw [if_pos e]; exact h1) (fun e => by rw [if_neg (by simp [e])]; exact h2)
end
end Mine

namespace Mine
section
variable {c : Cx} {n : Nat} {sc : Scope} {s₀ s : Shared} {g : Addr → Option Obj} {own F₀ : List Addr} {env : Env} {A : Around} {E : Value → Shared → Prop} {Q : Flow → Shared → Prop} {rest : List Stmt}

theorem ex_forP {x y : Str} {p q p0 pos : Pos} {k0 : Nat} {iter : Expr} {body : List Stmt} {kvs : List (Int × Int)} {ρ ρ' : Nat → Vars} {mu : Nat → Option (Addr × M)} {stop : Nat → Prop} {dr : Nat → D}
    (f : Fm c n sc env own A) (S : St c s₀ g own F₀ env (ρ 0) (mu 0) s) (hit : Ev c n sc (ρ 0) (mu 0) iter (.its kvs))
    (ha : ∀ i k v, kvs[i]? = some (k, v) → AsgL c sc (fun _ => true) (mu i) [.Name x p, .Name y q] [.int k, .int v] (ρ i) (ρ' i))
    (hbody : ∀ (E : Value → Shared → Prop) i k v g' F₁ s', kvs[i]? = some (k, v) → St c s₀ g' own F₁ env (ρ' i) (mu i) s' → Ex c A env body (LoopPost c s₀ g' own F₁ env (ρ (i + 1)) (mu (i + 1)) (stop i) (dr i)) E s')
    (hdone : ∀ s', St c s₀ g own F₀ env (ρ kvs.length) (mu kvs.length) s' → Ex c A env rest Q E s')
    (hret : ∀ i v s', i < kvs.length → stop i → St c s₀ g own F₀ env [] none s' → Rep (own ++ F₀) s'.heap v (dr i) → Q (.ret v) s')
    (hs : ∀ v, foldedSetIterable iter env v = pure v) : Ex c A env (.For (.Tuple [.Name x p, .Name y q] k0 p0) iter body [] pos :: rest) Q E s := by
  refine ex_for (ρ := ρ) (ρ' := ρ') (mu := mu) (stop := stop) (dr := dr) f S hit IterV.its (fun E i v g' F₁ s' hi S' r => ?_) (fun E i g' F₁ s' hi S' => hbody E i kvs[i].1 kvs[i].2 g' F₁ s' (by simp [hi]) S') hdone hret hs
  obtain ⟨T, k, w, t, u, rfl, hT, hkv⟩ := r
  have L := assignEach_len env [.Name x p, .Name y q] names2
  refine wpAny_assign_Tuple f.room.handled (t := T) (items := #[.int k t, .int w u]) hT ?_ L.2 fun h' hx => ?_
  · rw [L.1]; rfl
  · have kk : Keeps s' { s' with heap := h' } := ⟨h', s'.toks, rfl, fun b o e => hx b o (Nat.ne_of_lt (Heap.lt_size e)) e⟩
    exact (ha i k w hkv).run A E env s₀ g' own F₁ _ [.int k t, .int w u] f.hsc f.ev (fun y _ hy => f.oc.at (by unfold Env.kindOf; rw [f.hsc]; exact hy)) f.room.handled (S'.more kk) (.cons (.int _ _) (.cons (.int _ _) .nil))

theorem ex_forV {x : Str} {p pos : Pos} {iter : Expr} {body : List Stmt} {kvs : List (Int × Int)} {ρ ρ' : Nat → Vars} {mu : Nat → Option (Addr × M)} {stop : Nat → Prop} {dr : Nat → D}
    (f : Fm c n sc env own A) (S : St c s₀ g own F₀ env (ρ 0) (mu 0) s) (hit : Ev c n sc (ρ 0) (mu 0) iter (.vals kvs))
    (ha : ∀ i k v, kvs[i]? = some (k, v) → Upd1 x (.int v) (ρ i) (ρ' i)) (hk : sc.names.lookup x = some .local ∨ sc.names.lookup x = some .cell)
    (hbody : ∀ (E : Value → Shared → Prop) i k v g' F₁ s', kvs[i]? = some (k, v) → St c s₀ g' own F₁ env (ρ' i) (mu i) s' → Ex c A env body (LoopPost c s₀ g' own F₁ env (ρ (i + 1)) (mu (i + 1)) (stop i) (dr i)) E s')
    (hdone : ∀ s', St c s₀ g own F₀ env (ρ kvs.length) (mu kvs.length) s' → Ex c A env rest Q E s')
    (hret : ∀ i v s', i < kvs.length → stop i → St c s₀ g own F₀ env [] none s' → Rep (own ++ F₀) s'.heap v (dr i) → Q (.ret v) s')
    (hs : ∀ v, foldedSetIterable iter env v = pure v) : Ex c A env (.For (.Name x p) iter body [] pos :: rest) Q E s := by
  refine ex_for (ρ := ρ) (ρ' := ρ') (mu := mu) (stop := stop) (dr := dr) f S hit (IterV.vals rfl) (fun E i v g' F₁ s' hi S' r => ?_) (fun E i g' F₁ s' hi S' => hbody E i kvs[i].1 kvs[i].2 g' F₁ s' (by simp [hi]) S') hdone hret hs
  obtain ⟨d, hd, rd⟩ := r
  rw [List.getElem?_map, List.getElem?_eq_getElem hi] at hd
  obtain rfl : D.int kvs[i].2 = d := by simpa using hd
  exact (Asg.name (o := fun _ => true) (ha i kvs[i].1 kvs[i].2 (by simp [hi])) (hk.imp id fun h => ⟨h, rfl⟩)).run A E env s₀ g' own F₁ s' v f.hsc f.ev (fun y _ hy => f.oc.at (by unfold Env.kindOf; rw [f.hsc]; exact hy)) f.room.handled S' rd
end
/-- a fact kept beside a variable -/
theorem St.fact {c : Cx} {s₀ s : Shared} {g : Addr → Option Obj} {own F₀ : List Addr} {env : Env} {ρ : Vars} {mu : Option (Addr × M)} {x : Str} {d : D} {p : Prop} (S : St c s₀ g own F₀ env ρ mu s) (h : (x, d) ∈ ρ) (hp : p) : St c s₀ g own F₀ env (ρ ++ [(x, .fact p)]) mu s :=
  { S with vars := let ⟨m, n, v⟩ := S.vars; ⟨m, n, fun y e q => (List.mem_append.mp q).elim (v y e) fun q => by
      have e := List.mem_singleton.mp q
      cases e
      obtain ⟨w, r, z⟩ := v x d h
      exact ⟨w, .fact hp, z⟩⟩ }
theorem St.told {c : Cx} {s₀ s : Shared} {g : Addr → Option Obj} {own F₀ : List Addr} {env : Env} {ρ : Vars} {mu : Option (Addr × M)} {x : Str} {p : Prop} (S : St c s₀ g own F₀ env ρ mu s) (h : (x, .fact p) ∈ ρ) : p := by
  obtain ⟨m, n, v⟩ := S.vars
  obtain ⟨w, r, z⟩ := v x _ h
  cases r; assumption
theorem storedI_len (kvs : List (Int × Int)) (k x : Int) : (storedI kvs k x).length ≤ kvs.length + 1 := by
  unfold storedI; split <;> simp
end Mine

namespace Mine
theorem swap_cell {c : Cx} {n : Nat} {sc : Scope} {env : Env} {own : List Addr} {A : Around} {elt : Expr} {gs : List Comprehension} {scope : Scope} {cpos p : Pos} {x : Str} {line : Nat} (f : Fm c n sc env own A) (h : sc.names.lookup x = some .cell) : swapsWith (.ListComp elt gs scope cpos) (some (.Name x p)) line env = pure false := by
  have hxk : env.kindOf x = some .cell := by unfold Env.kindOf; rw [f.hsc]; exact h
  unfold swapsWith
  have hb : env.blockKind = .function := by unfold Env.blockKind; rw [f.ev.kind]; rfl
  show (pure (env.blockKind == .function && env.kindOf x == some .local && p.line == (Expr.ListComp elt gs scope cpos).pos.line && !(scope.names.any fun (n, k) => n == x && (k == NameKind.local || k == NameKind.cell))) : Sem Bool) = pure false
  rw [hb, hxk]; rfl
end Mine
namespace Mine
section
variable {c : Cx} {n : Nat} {sc : Scope} {ρ : Vars} {mu : Option (Addr × M)}
theorem Ev.dict0 {pos : Pos} (hb0 : ∃ b o, sysModules < b ∧ c.K.lookup b = some o) : Ev c n sc ρ mu (.Dict [] [] pos) (.dct []) := .mk fun ok A E env s₀ g own F₀ s hsc ev room S => by
  refine wpAny_Dict_empty ⟨kpPush s (dctO [] 0), .dct S.lives.off ?_ (Heap.get?_push_size (o := dctO [] 0) _ rfl) .nil .nil⟩
  obtain ⟨b, o, hb, e⟩ := hb0
  exact beq_false_of_ne (Nat.ne_of_gt (Nat.lt_trans hb (Heap.lt_size (S.b0 _ _ (ok.X _ _ e)))))
end
end Mine

namespace Mine
section
variable {c : Cx} {n : Nat} {sc : Scope} {s₀ s : Shared} {g : Addr → Option Obj} {own F₀ : List Addr} {env : Env} {ρ ρ' : Vars} {mu mu' : Option (Addr × M)} {A : Around} {E : Value → Shared → Prop} {Q : Flow → Shared → Prop} {rest : List Stmt}

/-- a local set to one of two strings: a token has been drawn -/
theorem ex_assign_ifstr {x : Str} {p p1 p2 ip pos : Pos} {k1 k2 : Nat} {t : Expr} {x1 x2 : Str} {b : Bool} (f : Fm c n sc env own A) (S : St c s₀ g own F₀ env ρ mu s) (ht : Tr c n sc ρ mu t b) (U : Upd1 x (.str (if b then x1 else x2)) ρ ρ') (hk : sc.names.lookup x = some .local)
    (hsw : swapsWith (.IfExp t (.Constant (.str x1) k1 p1) (.Constant (.str x2) k2 p2) ip) (some (.Name x p)) pos.line env = pure false)
    (k : ∀ s', s'.toks ≠ 0 → St c s₀ g own F₀ env ρ' mu s' → Ex c A env rest Q E s') : Ex c A env (.Assign [.Name x p] (.IfExp t (.Constant (.str x1) k1 p1) (.Constant (.str x2) k2 p2) ip) pos :: rest) Q E s := by
  have hk' : env.kindOf x = some .local := by unfold Env.kindOf; rw [f.hsc]; exact hk
  refine ⟨wpAny_execs_cons (wpAny_Assign_Name (wpAny_IfExp (wpAny_mono (ht.run f.ok A E env s₀ g own F₀ s f.hsc f.ev f.room S) (fun r s1 q1 => ?_) fun _ _ e => e)) hsw)⟩
  obtain ⟨k1, rfl⟩ := q1
  have S1 := S.more k1
  cases r with
  | true => exact wpAny_Constant_str (st_storeLh f.ev (S1.more (kpTok s1 (s1.toks + 1))) U (.str _ _) hk' fun h' S' => (k _ (Nat.succ_ne_zero _) S').go)
  | false => exact wpAny_Constant_str (st_storeLh f.ev (S1.more (kpTok s1 (s1.toks + 1))) U (.str _ _) hk' fun h' S' => (k _ (Nat.succ_ne_zero _) S').go)

/-- a local's value, nothing turned -/
theorem eval_local {x : Str} {p : Pos} {d : D} {Q : Value → Shared → Prop} (f : Fm c n sc env own A) (S : St c s₀ g own F₀ env ρ mu s) (h : (x, d) ∈ ρ) (hk : sc.names.lookup x = some .local) (hd : (x == ("__debug__" : Str)) = false)
    (hQ : ∀ v, Rep (own ++ F₀) s.heap v d → Q v s) : wpAny (model c.prog c.w) A (eval (.Name x p) env) Q E s := by
  obtain ⟨m, hn, hv⟩ := S.vars
  obtain ⟨v, r, q⟩ := hv x d h
  have hk' : env.kindOf x = some .local := by unfold Env.kindOf; rw [f.hsc]; exact hk
  rcases q with ⟨_, hm⟩ | ⟨hk2, _⟩
  · exact wpAny_Name (wpAny_loadName_local f.ev.kind hk' hn hm (hQ v r)) hd
  · rw [hk'] at hk2; cases hk2

/-- return a + b.replace("y", "z") + e -/
theorem ex_ret_replace {xa xb y z : Str} {pa pb p1 p2 ap cp bp bp2 pos : Pos} {k1 k2 : Nat} {e3 : Expr} {a b w : Str} (f : Fm c n sc env own A) (ht : s.toks ≠ 0) (S : St c s₀ g own F₀ env ρ mu s)
    (ha : (xa, .str a) ∈ ρ) (hka : sc.names.lookup xa = some .local) (hb : (xb, .str b) ∈ ρ) (hkb : sc.names.lookup xb = some .local) (hda : (xa == ("__debug__" : Str)) = false) (hdb : (xb == ("__debug__" : Str)) = false)
    (h3 : Ev c n sc ρ mu e3 (.str w)) (hyz : (y == z) = false) (hl : b.length + (b.length + 1) * z.length ≤ 16777216) (hl1 : a.length + (Txt.replace b y z).length ≤ 1000) (hl2 : (a ++ Txt.replace b y z).length + w.length ≤ 1000)
    (hbase : attributeBase (.Name xb pb) "replace" env (eval (.Name xb pb) env) = eval (.Name xb pb) env) (hline : (ap.endLine == cp.line) = true)
    (k : ∀ v s', St c s₀ g own F₀ env ρ mu s' → Rep (own ++ F₀) s'.heap v (.str (a ++ Txt.replace b y z ++ w)) → Q (.ret v) s') :
    Ex c A env (.Return (some (.BinOp (.BinOp (.Name xa pa) .Add (.Call (.Attribute (.Name xb pb) "replace" ap) [.Constant (.str y) k1 p1, .Constant (.str z) k2 p2] [] cp) bp) .Add e3 bp2)) pos :: rest) Q E s := by
  refine ⟨wpAny_execs_cons (wpAny_Return_some (wpAny_BinOp (wpAny_BinOp (eval_local f S ha hka hda fun va ra => ?_))))⟩
  (first | refine Rep.eint ra fun _ => ?_ | refine Rep.eptr ra ?_ | refine Rep.estr ra fun _ => ?_ | refine Rep.eflt ra fun _ => ?_ | refine Rep.ebool ra ?_)
  rename_i ta
  refine Call_method2 hbase rfl hline (eval_local f S hb hkb hdb fun vb rb => ?_)
  (first | refine Rep.eint rb fun _ => ?_ | refine Rep.eptr rb ?_ | refine Rep.estr rb fun _ => ?_ | refine Rep.eflt rb fun _ => ?_ | refine Rep.ebool rb ?_)
  rename_i tb
  refine ⟨"str", "str.replace", PySem.F.plainAttrs_str, PySem.F.slot_str_replace, PySem.F.type_str_replace, typeIs_str _ _ _, (fun _ e => nomatch e), ?_⟩
  refine Calls.callWith_builtin rfl (Calls.evalArgs_plain (Calls.spliced_cons (wpAny_Constant_str (Calls.spliced_cons (wpAny_Constant_str (Calls.spliced_nil ?_))))))
  refine SC.replace ht (Nat.succ_ne_zero _) (Nat.ne_of_lt (Nat.lt_succ_self _)) hyz hl fun t' k' => ?_
  have S1 : St c s₀ g own F₀ env ρ mu { s with toks := k' } := S.more (kpTok s k')
  refine wpAny_mono ((BinV.cat hl1).run c.prog c.w A E (own ++ F₀) { s with toks := k' } _ _ f.room.handled (S1.nolimit f.ok) S1.lives (.str a ta) (.str _ t')) (fun v s2 q2 => ?_) fun _ _ e => e
  have S2 := S1.more q2.1
  refine wpAny_mono (h3.run f.ok A E env s₀ g own F₀ s2 f.hsc f.ev f.room S2) (fun v3 s3 q3 => ?_) fun _ _ e => e
  have S3 := S2.more q3.1
  exact wpAny_mono ((BinV.cat hl2).run c.prog c.w A E (own ++ F₀) s3 v v3 f.room.handled (S3.nolimit f.ok) S3.lives (q2.2.keeps (kpLe q3.1)) q3.2) (fun v s4 q4 => k v s4 (S3.more q4.1) q4.2) fun _ _ e => e
end
end Mine

namespace Mine
section
variable {c : Cx} {n : Nat} {sc : Scope} {s₀ s : Shared} {g : Addr → Option Obj} {own F₀ : List Addr} {env : Env} {mu : Option (Addr × M)} {A : Around} {E : Value → Shared → Prop} {Q : Flow → Shared → Prop} {rest : List Stmt}

theorem ex_while {test : Expr} {body : List Stmt} {pos : Pos} {N : Nat} {ρ : Nat → Vars} {ρd : Vars} {b : Nat → Bool} (f : Fm c n sc env own A) (S : St c s₀ g own F₀ env (ρ 0) mu s)
    (ht : ∀ k, k ≤ N → Tr c n sc (ρ k) mu test (b k)) (hN : ∀ s', St c s₀ g own F₀ env (ρ N) mu s' → b N = false)
    (hbody : ∀ (E : Value → Shared → Prop) k s', k < N → b k = true → St c s₀ g own F₀ env (ρ k) mu s' →
      Ex c A env body (fun fl s'' => match fl with | .next | .cont => St c s₀ g own F₀ env (ρ (k + 1)) mu s'' | .brk => St c s₀ g own F₀ env ρd mu s'' | .ret _ => False) E s')
    (hexit : ∀ k s', k ≤ N → b k = false → St c s₀ g own F₀ env (ρ k) mu s' → St c s₀ g own F₀ env ρd mu s')
    (hdone : ∀ s', St c s₀ g own F₀ env ρd mu s' → Ex c A env rest Q E s') : Ex c A env (.While test body [] pos :: rest) Q E s := by
  refine ⟨wpAny_execs_cons (wpAny_While (codeAny_whileLoop (fun m s' => ∃ k, k ≤ N ∧ m = N - k ∧ St c s₀ g own F₀ env (ρ k) mu s') ?_ N ⟨0, Nat.zero_le _, rfl, S⟩))⟩
  rintro m s' ⟨k, hk, rfl, S'⟩
  refine wpAny_mono ((ht k hk).run f.ok A _ env s₀ g own F₀ s' f.hsc f.ev f.room S') (fun r s1 q1 => ?_) fun _ _ e => e
  obtain ⟨k1, hr⟩ := q1
  have S1 := S'.more k1
  cases hb : b k with
  | true =>
    rw [hr, hb]
    simp only [if_true]
    have hlt : k < N := by
      rcases Nat.lt_or_ge k N with h | h
      · exact h
      · have : k = N := by omega
        subst this
        rw [hN s1 S1] at hb; cases hb
    refine wpAny_mono (hbody _ k s1 hlt hb S1).go (fun fl s2 q => ?_) fun _ _ e => e
    cases fl with
    | next => exact ⟨N - (k + 1), by omega, k + 1, hlt, rfl, q⟩
    | cont => exact ⟨N - (k + 1), by omega, k + 1, hlt, rfl, q⟩
    | brk => exact (hdone s2 q).go
    | ret v => exact q.elim
  | false =>
    rw [hr, hb]
    simp only [Bool.false_eq_true, if_false]
    exact wpAny_execs_nil (hdone s1 (hexit k s1 hk hb S1)).go

/-- raise X(e), X a class of the text's -/
theorem ex_raise {x : Str} {np cpos pos : Pos} {e₀ : Expr} {ρ : Vars} {d : D} {C : Addr} {bm : List Value} {B newId initId : String} (f : Fm c n sc env own A) (S : St c s₀ g own F₀ env ρ mu s)
    (O : OwnCls x C bm newId c.mg c.b0) (FB : ExcBaseFacts B newId initId bm) (hx : Ev c n sc ρ mu (.Name x np) (.ptr (.ref C))) (he : Ev c n sc ρ mu e₀ d)
    (hs : starEach [e₀] env = [(false, eval e₀ env)])
    (k : ∀ vs s₂ h' e, St c s₀ g own F₀ env ρ mu s₂ → Heap.MadeExcOf s₂.heap h' e (.ref C) vs → E (.ref e) { s₂ with heap := h' }) :
    Ex c A env (.Raise (some (.Call (.Name x np) [e₀] [] cpos)) none pos :: rest) Q E s := by
  obtain ⟨tl, N, nm, q, bs, hdct, sn, sub, ab, col, dd, k0, k1, k2, k3, k5, mN, hC, hN, hni, T⟩ := O.obj
  refine ⟨wpAny_execs_cons (wpAny_Raise_call_subT (C := C) (nm := nm) (q := q) (N := N) (bs := bs) (bm := tl) (hdct := hdct) (sn := sn) (sub := sub) (ab := ab) (col := col) (dd := dd) (k0 := k0) (k1 := k1) (k2 := k2) (k3 := k3) (k5 := k5)
    FB (mN := mN) (T.hasType FB.hasBase) f.room.handled (by rw [hs]; rfl) hni ?_)⟩
  refine wpAny_mono (hx.run f.ok A E env s₀ g own F₀ s f.hsc f.ev f.room S) (fun v s1 q1 => ?_) fun _ _ e => e
  obtain ⟨k1', r1⟩ := q1
  (first | refine Rep.eint r1 fun _ => ?_ | refine Rep.eptr r1 ?_ | refine Rep.estr r1 fun _ => ?_ | refine Rep.eflt r1 fun _ => ?_ | refine Rep.ebool r1 ?_)
  have S1 := S.more k1'
  refine ⟨rfl, ?_⟩
  rw [hs]
  refine Calls.evalArgs_plain (Calls.spliced_cons (wpAny_mono (he.run f.ok A E env s₀ g own F₀ s1 f.hsc f.ev f.room S1) (fun v s2 q2 => Calls.spliced_nil ?_) fun _ _ e => e))
  have S2 := S1.more q2.1
  exact ⟨rfl, by rw [sizeLine_eq]; simp, S2.b0 _ _ hC, hN.keeps S2.b0, T.keeps S2.b0, fun h' e hm => k _ s2 h' e S2 hm⟩

/-- how a call ends that raises: e flies -/
noncomputable def FlyR (C : Addr) (s : Shared) (outer : List Env) (res : Result) (s' : Shared) : Prop :=
  ∃ e a0, res = .error (.ref e) ∧ Same s s' ∧ Heap.FlyingW (hideAll s.heap (outer.filterMap (·.frame))) outer e (.ref C) a0 s'.heap ∧ s.heap.UpToSlots s'.heap

theorem leave_made {ρ : Vars} {outer : List Env} {base0 : Heap} {s₂ : Shared} {h' : Heap} {e C : Addr} {vs : List Value} {E' : Value → Shared → Prop} (fr : A.frames = some outer) (hff : s.heap.FunFrames base0 outer) (ev : EnvOk env) (hf : env.frame = some env.locals)
    (S₂ : St c s s.heap.get? own F₀ env ρ mu s₂) (hm : Heap.MadeExcOf s₂.heap h' e (.ref C) vs) :
    wpAny (model c.prog c.w) (A.deeper env) (leaving env (.ref e)) (fun _ s'' => FlyR C s outer (.error (.ref e)) s'') E' { s₂ with heap := h' } := by
  have hin : ∀ env ∈ outer, ∀ b, env.frame = some b → b ∈ outer.filterMap (·.frame) := fun env he b hb => List.mem_filterMap.mpr ⟨env, he, hb⟩
  have hLn : (hideAll s.heap (outer.filterMap (·.frame))).get? env.locals = none := by
    cases q : (hideAll s.heap (outer.filterMap (·.frame))).get? env.locals with
    | none => rfl
    | some o => have := of_hideAll _ q; rw [S₂.fresh _ S₂.loc] at this; cases this
  obtain ⟨m, hn, _⟩ := S₂.vars
  have hff' : s₂.heap.FunFrames (hideAll s.heap (outer.filterMap (·.frame))) (env :: outer) :=
    .cons (by rw [ev.kind]; decide) hf hn hLn ((funFrames_hide hff hin).of_keeps fun b o e _ => ⟨o, S₂.keep b o e, rfl⟩)
  refine wpAny_leaves_madeW (Around.frames_deeper fr) hf (fun b o q => S₂.keep b o (of_hideAll _ q)) hff' hm fun h'' t x1 _ _ x4 => ?_
  exact ⟨e, _, rfl, S₂.same.trans ⟨h'', _, rfl⟩, x1, ((Heap.UpToSlots.of_keeps S₂.keep).trans (Heap.UpToSlots.of_keeps hm.keeps)).trans x4⟩

/-- try: x = f(e) / except C: return "z", where the call raises a C -/
theorem ex_try_caught {x fn y : Str} {xp fp cp ap yp zp rp hp pos : Pos} {arg : Expr} {z : Str} {kz : Nat} {a C : Addr} {fd : FuncData} {oc : Value} {od : Option Addr} {osl : Array (Option Value)} {ds : List D} {ρ : Vars} {outer : List Env}
    (f : Fm c n sc env own A) (S : St c s₀ g own F₀ env ρ mu s) (fr : A.frames = some (env :: outer)) (hf : env.frame = some env.locals)
    (hb0 : ∀ L ∈ (env :: outer).filterMap (·.frame), c.b0.get? L = none)
    (hfn : Ev c n sc ρ mu (.Name fn fp) (.ptr (.ref a))) (ho : c.K.lookup a = some ⟨oc, od, .func fd, osl⟩) (ha : EvL c n sc ρ mu [arg] ds) (hs : starEach [arg] env = [(false, eval arg env)])
    (hr : ∀ s' vs, St c s₀ g own F₀ env ρ mu s' → RepL (own ++ F₀) s'.heap vs ds → codeAny (model c.prog c.w) A (.call (.ref a) ⟨vs, []⟩) (FlyR C s' (env :: outer)) s')
    (hy : sc.names.lookup y = some .globalImplicit) (hyv : nsIn c.K mainGlobals y = some (some (.ref C))) (hyd : (y == ("__debug__" : Str)) = false) (hC : ktsIn c.K C "BaseException" = true)
    (hsw : swapsWith (.Call (.Name fn fp) [arg] [] cp) (some (.Name x xp)) ap.line env = pure false)
    (hQ : ∀ t s', Same s s' → (∀ b o, b ∉ (env :: outer).filterMap (·.frame) → s.heap.get? b = some o → s'.heap.get? b = some o) → s.heap.UpToSlots s'.heap → Q (.ret (.str z t)) s') :
    Ex c A env (.Try [.Assign [.Name x xp] (.Call (.Name fn fp) [arg] [] cp) ap] [.ExceptHandler (some (.Name y yp)) none [.Return (some (.Constant (.str z) kz zp)) rp] hp] [] [] pos :: rest) Q E s := by
  refine ⟨wpAny_execs_cons (wpAny_Try_except ?_)⟩
  refine wpAny_execs_cons (wpAny_Assign_Name ?_ hsw)
  refine Call_Name rfl (wpAny_mono (hfn.run f.ok A _ env s₀ g own F₀ s f.hsc f.ev f.room S) (fun v s1 q1 => ?_) fun _ _ e => e)
  obtain ⟨k1, r1⟩ := q1
  (first | refine Rep.eint r1 fun _ => ?_ | refine Rep.eptr r1 ?_ | refine Rep.estr r1 fun _ => ?_ | refine Rep.eflt r1 fun _ => ?_ | refine Rep.ebool r1 ?_)
  have S1 := S.more k1
  rw [hs]
  refine callWith_function (o := ⟨oc, od, .func fd, osl⟩) (fd := fd) (Calls.evalArgs_plain ?_)
  have ha' := fun E => ha.run f.ok A E env s₀ g own F₀ s1 cp f.hsc f.ev f.room S1
  rw [hs] at ha'
  refine wpAny_mono (ha' _) (fun vs s2 q2 => ?_) fun _ _ e => e
  have S2 := S1.more q2.1
  refine ⟨⟨S2.b0 _ _ (f.ok.X _ _ ho), rfl⟩, wpAny_call (codeAny_mono (hr s2 vs S2 q2.2) fun res s3 q3 => ?_)⟩
  obtain ⟨e, a0, rfl, same3, fly, ups⟩ := q3
  show wpAny _ A (noteFrame (.ref e) env) _ _ s3
  have kk : ∀ b o, b ∉ (env :: outer).filterMap (·.frame) → s.heap.get? b = some o → (hideAll s2.heap ((env :: outer).filterMap (·.frame))).get? b = some o := fun b o hb e => hideAll_get _ (kpLe q2.1 _ _ (kpLe k1 _ _ e)) hb
  have kb0 : ∀ b o, c.b0.get? b = some o → (hideAll s2.heap ((env :: outer).filterMap (·.frame))).get? b = some o := fun b o e => hideAll_get _ (S2.b0 b o e) fun m => by rw [hb0 b m] at e; cases e
  refine wpAny_looks_onW fr hf fly fun h₄ hheld₄ hsm₄ => ?_
  refine wpAny_landsW hheld₄ fun h₅ hheld hsm₅ => ?_
  have g5 : h₅.Ns mainGlobals c.mg := f.ok.T.g.keeps fun b o e => hheld.1 b o (kb0 b o e)
  obtain ⟨ob, hob, hobc⟩ := hheld.there
  obtain ⟨nm, q', N, bs, bm, hdct, sn, sub, ab, col, dd, k0, k1', k2, k3, k5, newId, hCo, hbase, _⟩ := kts_cls f.ok.X hC
  have hC5 := hheld.1 _ _ (kb0 _ _ hCo)
  refine wpAny_handleBy_cons (codeAny_handlers_test (Name_function_global f.ev.kind (by unfold Env.kindOf; rw [f.hsc]; exact hy) (loadGlobal_global (mg := c.mg) (by rw [f.ev.globals]; exact g5) (mg_of f.ok.X f.ok.T.g hyv) ?_) hyd)) (by intro q; cases q)
  refine wpAny_excMatches_sub_self hC5 hob hobc hbase (codeAny_handlers_suite ?_)
  refine lands_againW hheld fun h₆ hfl₆ hsm₆ => ?_
  refine wpAny_execs_cons (wpAny_Return_some (wpAny_Constant_str ?_))
  refine hQ _ _ ((((kpSame k1).trans (kpSame q2.1)).trans same3).trans ⟨h₆, _, rfl⟩) (fun b o hb e => hfl₆.1 b o (kk b o hb e)) ?_
  exact ((Heap.UpToSlots.of_keeps fun b o e => kpLe q2.1 _ _ (kpLe k1 _ _ e)).trans ups).trans ((hsm₄.trans hsm₅).trans hsm₆)
end
end Mine

namespace Mine
section
variable {c : Cx} {n : Nat} {sc : Scope} {s₀ s : Shared} {g : Addr → Option Obj} {own F₀ : List Addr} {env : Env} {ρ ρ' : Vars} {mu mu' : Option (Addr × M)} {A : Around} {E : Value → Shared → Prop} {Q : Flow → Shared → Prop} {rest : List Stmt}
theorem ex_break {pos : Pos} (h : Q .brk s) : Ex c A env (.Break pos :: rest) Q E s := ⟨wpAny_execs_cons (wpAny_Break h)⟩
theorem ex_try_ok {body : List Stmt} {h₀ : ExceptHandler} {hs : List ExceptHandler} {pos : Pos} (hb : ∀ E, Ex c A env body (fun fl s' => fl = .next ∧ St c s₀ g own F₀ env ρ' mu' s') E s)
    (k : ∀ s', St c s₀ g own F₀ env ρ' mu' s' → Ex c A env rest Q E s') : Ex c A env (.Try body (h₀ :: hs) [] [] pos :: rest) Q E s := by
  refine ⟨wpAny_execs_cons (wpAny_Try_except (wpAny_mono (hb _).go (fun fl s' q => ?_) fun _ _ e => e))⟩
  obtain ⟨rfl, S'⟩ := q
  exact wpAny_execs_nil (k s' S').go
/-- an item of a table of the text's -/
theorem Ev.subK {value slice : Expr} {pos : Pos} {a : Addr} {x : Str} {i : Int} {t : Tok} {es : Array DictEntry} {ne : Nat} (h1 : Ev c n sc ρ mu value (.ptr (.ref a))) (h2 : Ev c n sc ρ mu slice (.str x))
    (hl : c.K.lookup a = some ⟨.type "dict", none, .dict es ne, #[]⟩) (hk : KeysLit c.w.params es.toList) (e : nsIn c.K a x = some (some (.int i t))) (hs : ∀ o i, subscripted slice false o i = operate [o, i] (getItem o i)) :
    Ev c n sc ρ mu (.Subscript value slice pos) (.int i) := .mk fun ok A E env s₀ g own F₀ s hsc ev room S => by
  refine Subscript_ (wpAny_mono (h1.run ok A E env s₀ g own F₀ s hsc ev room S) (fun v1 s1 q1 => ?_) fun _ _ e => e)
  have S1 := S.more q1.1
  refine wpAny_mono (h2.run ok A E env s₀ g own F₀ s1 hsc ev room S1) (fun v2 s2 q2 => ?_) fun _ _ e => e
  have S2 := S1.more q2.1
  obtain ⟨k1, r1⟩ := q1; obtain ⟨k2, r2⟩ := q2
  (first | refine Rep.eint r1 fun _ => ?_ | refine Rep.eptr r1 ?_ | refine Rep.estr r1 fun _ => ?_ | refine Rep.eflt r1 fun _ => ?_ | refine Rep.ebool r1 ?_); (first | refine Rep.eint r2 fun _ => ?_ | refine Rep.eptr r2 ?_ | refine Rep.estr r2 fun _ => ?_ | refine Rep.eflt r2 fun _ => ?_ | refine Rep.ebool r2 ?_)
  rename_i u
  have hm := mapOf_K (prog := c.prog) (w := c.w) (fun b o e => S2.b0 b o (ok.X b o e)) hl hk
  exact tail_any hm.typeIs slot_dict_getitem.lookup (wpAny_getItem_of (strKind_is c.prog c.w x u) hm (find_K hl e) ⟨kpTrans k1 (kpTrans k2 (kpTok s2 _)), .int _ _⟩) (hs _ _)
theorem charAt_some {x : Str} {i : Nat} (h : i < x.length) : (Txt.charAt x (i : Int)).isSome = true := by
  unfold Txt.charAt
  rw [seqIndex_of (by omega) (by omega)]
  have : i < x.cps.size := h
  simp [this]
theorem fits_small {i : Nat} (h : i ≤ 1000000) : fitsSsize (i : Int) = true := by
  unfold fitsSsize
  have h1 : ¬ ((i : Int) < -(2 ^ 63 : Int)) := by omega
  have h2 : ¬ ((i : Int) ≥ 2 ^ 63) := by omega
  rw [decide_eq_false h1, decide_eq_false h2]; rfl
end
theorem item_len (x : Str) (i : Int) : (Txt.item x i).length = 1 := rfl
theorem cat_len (x y : Str) : (x ++ y).length = x.length + y.length := strLen_append x y
end Mine

namespace Mine
/-- all kept but the slots of one address -/
noncomputable def KpX (L : Addr) (s s' : Shared) : Prop := Same s s' ∧ (∀ b o, b ≠ L → s.heap.get? b = some o → s'.heap.get? b = some o) ∧ ∀ o, s.heap.get? L = some o → ∃ sl, s'.heap.get? L = some { o with slots := sl }
theorem KpX.of {L : Addr} {s s' : Shared} (k : Keeps s s') : KpX L s s' := ⟨kpSame k, fun b o _ e => kpLe k b o e, fun o e => ⟨o.slots, kpLe k _ _ e⟩⟩
theorem KpX.trans {L : Addr} {a b c : Shared} (x : KpX L a b) (y : KpX L b c) : KpX L a c := ⟨x.1.trans y.1, fun p o hp e => y.2.1 p o hp (x.2.1 p o hp e), fun o e => by
  obtain ⟨sl, e1⟩ := x.2.2 o e
  obtain ⟨sl', e2⟩ := y.2.2 _ e1
  exact ⟨sl', e2⟩⟩
theorem KpX.ups {L : Addr} {s s' : Shared} (k : KpX L s s') : s.heap.UpToSlots s'.heap := fun b o e _ => by
  by_cases h : b = L
  · subst h; exact k.2.2 o e
  · exact ⟨o.slots, k.2.1 b o h e⟩

section
variable {c : Cx} {n : Nat} {sc : Scope} {s₀ s : Shared} {g : Addr → Option Obj} {own F₀ : List Addr} {env : Env} {A : Around} {D0 L : Addr} {ds : List D} {ρ : Vars} {mu : Option (Addr × M)}

theorem St.moreX {s' : Shared} {m : Str → Option Value} (S : St c s₀ g own F₀ env ρ mu s) (k : KpX L s s') (hLo : L ∉ own) (hg : g L = none) (hLF : L ∈ F₀) (hn : s.heap.Ns L m) : St c s₀ g own F₀ env ρ mu s' := by
  have notc : ∀ v, ¬ s.heap.IsCell L v := fun v q => ns_notCell hn q
  refine S.turn [L] k.1 (fun b o hb e => k.2.1 b o (fun q => hb (by rw [q]; exact .head _)) e) (fun a m => by rw [List.mem_singleton.mp m]; exact hLo) (fun a m => by rw [List.mem_singleton.mp m]; exact hg) (fun a m o _ => by rw [List.mem_singleton.mp m]; exact hLF)
    (fun a m v q => notc v (by rw [List.mem_singleton.mp m] at q; exact q)) (fun a o _ m => m) (fun a m => ?_) fun a v q m => m
  obtain ⟨h1, o, e⟩ := S.live a m
  by_cases q : a = L
  · subst q
    obtain ⟨sl, e'⟩ := k.2.2 o e
    exact ⟨h1, _, e'⟩
  · exact ⟨h1, o, k.2.1 a o q e⟩

/-- an element's evaluation that may turn the slots of L -/
noncomputable def EvX (c : Cx) (A : Around) (env : Env) (s₀ : Shared) (own F₀ : List Addr) (L : Addr) (ρ : Vars) (e : Expr) (d : D) : Prop :=
  ∀ (E : Value → Shared → Prop) (mu : Option (Addr × M)) (g : Addr → Option Obj) (s : Shared), g L = none → (∃ m, s.heap.Ns L m) → St c s₀ g own F₀ env ρ mu s →
    wpAny (model c.prog c.w) A (eval e env) (fun v s' => KpX L s s' ∧ Rep (own ++ F₀) s'.heap v d) E s

theorem last_runX {α : Type} {elt target : Expr} {items : List α} {emb : α → D} {e : α → D} {ρ : Vars} {ρ' : α → Vars} {R : Result → Shared → Prop} {os : Str → Bool}
    (ok : c.Ok) (hsc : env.scope = sc) (ev : EnvOk env) (room : Room A n) (hos : ∀ x, os x = true → sc.names.lookup x = some .cell → OwnX env own x)
    {I : Addr} {fp : List Addr} {P Md : Nat → Value → Heap → Prop} {StK : Nat → Heap → Prop} (W : KTurns c.prog c.w A target I fp [I] items.length P Md StK)
    (hob : ∀ i h, StK i h → ∃ o, h.get? I = some o ∧ ∀ v, o.data ≠ .cell v) (hfp : ∀ b ∈ fp, b ∉ own) (S : St c s₀ g own F₀ env ρ (some (D0, .lst ds)) s) (hIF : I ∈ F₀) {F₁ : List Addr} (hF1 : ∀ a, a ∈ F₁ ↔ a ∈ F₀ ∧ a ≠ I) (hIg : g I = none) (hst : StK 0 s.heap)
    (hLo : L ∉ own) (hLg : g L = none) (hLF : L ∈ F₀) (hLI : L ≠ I) (hLfp : L ∉ fp) (hLn : ∃ m, s.heap.Ns L m) (hLb : c.b0.get? L = none)
    (hR : ∀ i v h, i < items.length → P i v h → (∀ b o, b ∉ own → b ≠ I → b ≠ L → s.heap.get? b = some o → h.get? b = some o) → Items (items.map emb) (own ++ F₀) i v h)
    (hasg : ∀ a ∈ items, ∀ mu, Asg c sc os mu target (emb a) ρ (ρ' a)) (hsub : ∀ a ∈ items, ∀ q ∈ ρ, q ∈ ρ' a)
    (he : ∀ a ∈ items, EvX c A env s₀ own F₀ L (ρ' a) elt (e a)) (hz : ds.length + items.length ≤ 100000)
    (hdone : ∀ s', St c s₀ g own F₁ env ρ (some (D0, .lst (ds ++ items.map e))) s' → (∀ b o, b ∉ own → b ≠ I → b ≠ L → s.heap.get? b = some o → s'.heap.get? b = some o) → (∀ o, s.heap.get? L = some o → ∃ sl, s'.heap.get? L = some { o with slots := sl }) → R (.ok .next) s') :
    ∃ Inv N, LastTurn c.prog c.w A elt target [] (.ref I) (.ref D0) env R Inv ∧ Inv N s := by
  have hIo : I ∉ own := (S.live I hIF).1
  obtain ⟨mL, hLn⟩ := hLn
  refine ⟨fun k s' => ∃ i, i ≤ items.length ∧ k = items.length + 1 - i ∧ St c s₀ g own F₀ env ρ (some (D0, .lst (ds ++ (items.take i).map e))) s' ∧ StK i s'.heap ∧ (∀ b o, b ∉ own → b ≠ I → b ≠ L → s.heap.get? b = some o → s'.heap.get? b = some o) ∧ (∀ o, s.heap.get? L = some o → ∃ sl, s'.heap.get? L = some { o with slots := sl }) ∧ s'.heap.Ns L mL,
    items.length + 1, ?_, 0, Nat.zero_le _, rfl, by simpa using S, hst, fun _ _ _ _ _ e => e, fun o e => ⟨o.slots, e⟩, hLn⟩
  rintro k s' ⟨i, hi, rfl, S', hst', hk', hkL, hNL⟩
  have notc : ∀ a ∈ [I], ∀ v, ¬ s'.heap.IsCell a v := fun a m v q => by
    rw [List.mem_singleton.mp m] at q
    obtain ⟨o, e, hd⟩ := q
    obtain ⟨o', e', hd'⟩ := hob i _ hst'
    rw [e] at e'; cases e'
    exact hd' v hd
  by_cases hlt : i < items.length
  · refine W.item i s' _ _ hlt hst' fun v h1 tk1 hMd hk1 => ?_
    refine W.go i v _ _ _ hMd fun h2 hP hst2 hk2 => ?_
    have hk12 : ∀ b o, b ∉ [I] → s'.heap.get? b = some o → h2.get? b = some o := fun b o hb e => hk2 b o hb (hk1 b o hb e)
    have hLI' : L ∉ [I] := fun m => hLI (List.mem_singleton.mp m)
    have hkk : ∀ b o, b ∉ own → b ≠ I → b ≠ L → s.heap.get? b = some o → h2.get? b = some o := fun b o hb hbI hbL e => hk12 b o (fun m => hbI (List.mem_singleton.mp m)) (hk' b o hb hbI hbL e)
    have hkL2 : ∀ o, s.heap.get? L = some o → ∃ sl, h2.get? L = some { o with slots := sl } := fun o e => let ⟨sl, e'⟩ := hkL o e; ⟨sl, hk12 _ _ hLI' e'⟩
    have S'' : St c s₀ g own F₀ env ρ (some (D0, .lst (ds ++ (items.take i).map e))) { s' with heap := h2, toks := tk1 } := by
      refine S'.turn [I] ⟨h2, tk1, rfl⟩ hk12 (fun a m => by rw [List.mem_singleton.mp m]; exact hIo) (fun a m => by rw [List.mem_singleton.mp m]; exact hIg) (fun a m o _ => by rw [List.mem_singleton.mp m]; exact hIF)
        notc (fun a o _ m => m) (fun a m => ?_) fun a v q m => m
      obtain ⟨h1', o, e⟩ := S'.live a m
      by_cases q : a = I
      · subst q; exact ⟨hIo, let ⟨o, e, _⟩ := hob (i + 1) _ hst2; ⟨o, e⟩⟩
      · exact ⟨h1', o, hk12 a o (fun m => q (List.mem_singleton.mp m)) e⟩
    have hNL2 : h2.Ns L mL := hNL.at' fun o e => hk12 _ _ hLI' e
    obtain ⟨d, hd, rv⟩ := hR i v h2 hlt hP hkk
    have ha : items[i]? = some items[i] := by simp [hlt]
    have hmem : items[i] ∈ items := List.getElem_mem hlt
    have hde : d = emb items[i] := by
      rw [List.getElem?_map, ha] at hd
      exact (Option.some.inj hd).symm
    subst hde
    have htk : (items.take (i + 1)).map e = (items.take i).map e ++ [e items[i]] := by
      rw [List.take_add_one, ha, List.map_append]; rfl
    refine wpAny_mono ((hasg _ hmem _).run A _ env s₀ _ own F₀ _ v hsc ev hos room.handled S''.hide rv) (fun _ s3 S3 => ?_) fun _ _ e => e
    have keep3 : ∀ b o, b ∉ own → h2.get? b = some o → s3.heap.get? b = some o := St.kept (s := { s' with heap := h2, toks := tk1 }) S3
    have hNL3 : s3.heap.Ns L mL := hNL2.at' fun o e => keep3 _ _ hLo e
    refine wpAny_tests_nil ?_
    simp only [if_true]
    have S4 : St c s₀ (hideO (L :: own) h2) own F₀ env (ρ' items[i]) (some (D0, .lst (ds ++ (items.take i).map e))) s3 := by
      refine S3.back (fun b o q => ?_) (fun b o q => ?_) (fun a m => ?_)
      · obtain ⟨h1, h2'⟩ := hideO_some q
        exact hideO_of (fun m => h1 (.tail _ m)) h2'
      · refine hideO_of (fun m => ?_) (S''.b0 b o q)
        rcases List.mem_cons.mp m with rfl | m
        · rw [hLb] at q; cases q
        · have := S.base b o q; rw [S.fresh b m] at this; cases this
      · unfold hideO; rw [if_pos (.tail _ m)]
    have hgx : hideO (L :: own) h2 L = none := by unfold hideO; rw [if_pos (.head _)]
    refine wpAny_mono (he _ hmem _ _ _ s3 hgx ⟨mL, hNL3⟩ S4) (fun x s5 q5 => ?_) fun _ _ e => e
    have S5 := S4.moreX q5.1 hLo hgx hLF hNL3
    refine st_append S5 q5.2 ?_ fun s6 S6 k6 => ?_
    · rw [List.length_append, List.length_map]
      have h2 : (items.take i).length ≤ items.length := by rw [List.length_take]; omega
      omega
    · have hLD : L ≠ D0 := fun q => hLo (q ▸ (S.mtd D0 _ rfl).1)
      have k26 : ∀ b o, b ∉ own → b ≠ L → h2.get? b = some o → s6.heap.get? b = some o := fun b o hb hbL e => S6.keep b o (hideO_of (fun m => (List.mem_cons.mp m).elim hbL hb) e)
      refine ⟨items.length + 1 - (i + 1), by omega, i + 1, hlt, rfl, ?_, W.frame _ _ _ hst2 fun b hb o e => k26 b o (hfp b hb) (fun q => hLfp (q ▸ hb)) e, fun b o hb hbI hbL e => k26 b o hb hbL (hkk b o hb hbI hbL e), fun o e => ?_, ?_⟩
      · rw [htk, ← List.append_assoc]
        refine (S6.fewer (hsub _ hmem)).back (fun b o q => ?_) S.base S.fresh
        refine hideO_of (fun m => ?_) (S''.keep b o q)
        rcases List.mem_cons.mp m with rfl | m
        · rw [hLg] at q; cases q
        · rw [S.fresh b m] at q; cases q
      · obtain ⟨sl, e1⟩ := hkL2 o e
        obtain ⟨sl', e2⟩ := q5.1.2.2 _ (keep3 _ _ hLo e1)
        exact ⟨sl', k6 _ _ hLD e2⟩
      · exact (q5.1.ups.ns hNL3).at' fun o e => k6 _ _ hLD e
  · have hin : i = items.length := by omega
    subst hin
    rw [List.take_length] at S'
    refine W.done s' _ _ hst' fun h1 tk1 hk1 => ?_
    have hLI' : L ∉ [I] := fun m => hLI (List.mem_singleton.mp m)
    refine hdone _ ?_ (fun b o hb hbI hbL e => hk1 b o (fun m => hbI (List.mem_singleton.mp m)) (hk' b o hb hbI hbL e)) fun o e => let ⟨sl, e'⟩ := hkL o e; ⟨sl, hk1 _ _ hLI' e'⟩
    refine S'.turn [I] ⟨h1, tk1, rfl⟩ hk1 (fun a m => by rw [List.mem_singleton.mp m]; exact hIo) (fun a m => by rw [List.mem_singleton.mp m]; exact hIg) (fun a m o _ => by rw [List.mem_singleton.mp m]; exact hIF)
        notc (fun a o _ m => ((hF1 a).mp m).1) (fun a m => ?_) fun a v q m => (hF1 a).mpr ⟨m, fun e => notc a (by rw [e]; exact .head _) v q⟩
    obtain ⟨h1', o, e⟩ := S'.live a ((hF1 a).mp m).1
    exact ⟨h1', o, hk1 a o (fun q => ((hF1 a).mp m).2 (List.mem_singleton.mp q)) e⟩
end
end Mine

namespace Mine
section
variable {c : Cx} {n : Nat} {sc : Scope} {s₀ s : Shared} {g : Addr → Option Obj} {own F₀ : List Addr} {env : Env} {A : Around} {E : Value → Shared → Prop} {ρ ρc : Vars} {mu : Option (Addr × M)} {scope : Scope}

theorem comp_mainX {α : Type} {elt target iter : Expr} {p0 pos : Pos} {use : Option (Value → Sem Unit)} {Q : Value → Shared → Prop} {items : List α} {emb : α → D} {e : α → D} {ρ' : α → Vars}
    (f : Fm c n sc env own A) (S : St c s₀ g own F₀ env ρ mu s) (cap : Cap scope sc) (hs : ∀ env x, foldedSetIterable iter env x = pure x)
    (hcell : (cellNames scope).all (fun x => scope.names.lookup x == some .cell) = true)
    (hit : Ev c n sc ρ mu iter (.lst (items.map emb))) (hq : Quiet target) (hρ : ∀ q ∈ ρc, q ∈ ρ ∧ scope.names.lookup q.1 = some .free)
    (hasg : ∀ a ∈ items, ∀ mu, Asg c (relabelS scope sc) (fun x => (cellNames scope).contains x) mu target (emb a) ρc (ρ' a)) (hsub : ∀ a ∈ items, ∀ q ∈ ρc, q ∈ ρ' a)
    (he : ∀ cenv s2 own' F, cenv.scope = relabelS scope sc → EnvOk cenv → ∀ a ∈ items, EvX c A cenv s2 own' F env.locals (ρ' a) elt (e a)) (hz : items.length ≤ 100000)
    (hfin : ∀ D0 C m s', KpX env.locals s s' → s'.heap.Ns C m → s.heap.get? C = none → Rep (own ++ (C :: F₀)) s'.heap (.ref D0) (.lst (items.map e)) → compPost (model c.prog c.w) A E use Q (.ref D0) C (.ok .next) s') :
    wpAny (model c.prog c.w) A (comprehension (.ListComp elt [⟨target, iter, [], 0⟩] scope pos) scope env p0 (newList []) false (eval iter env) use) Q E s := by
  have hsc := f.hsc
  have ev := f.ev
  have room := f.room
  have ok := f.ok
  have hfk : ∀ x ∈ freeNames scope, ∃ k, env.cells.lookup x = some k := fun x hx => ev.has x (by
    unfold Env.kindOf; rw [hsc]
    have := List.all_eq_true.mp cap.free x hx
    simpa using this)
  refine wpAny_comprehension_free (cl := closOf scope env) rfl (hs env) (closureFor_of hfk) cap.kind (fun x hx hl => ?_) ?_
  · have := List.all_eq_true.mp cap.locals x hx
    rw [hl] at this
    simpa using this
  refine wpAny_mono (hit.run ok A E env s₀ g own F₀ s hsc ev room S) (fun xv s1 q1 => ?_) fun _ _ e => e
  have S1 := S.more q1.1
  refine wpAny_mono ((IterV.lstM hq).run c.prog c.w A E (own ++ F₀) s1 xv room.handled S1.lives q1.2) (fun it s2 q2 => ?_) fun _ _ e => e
  obtain ⟨k2, I, fp, P, Md, StK, rfl, W, hst, hfpF, hfpo, hIn, hob, hself, hR⟩ := q2
  have S2 : St c s₀ g own (I :: F₀) env ρ mu s2 := S1.withIt k2 hIn (let ⟨o, e, _⟩ := hob 0 _ hst; ⟨o, e⟩)
  have hIg : g I = none := by
    cases e : g I with
    | none => rfl
    | some o => have := S.keep _ _ e; rw [kpLe q1.1 _ _ this] at hIn; cases hIn
  have hIF : I ∉ own ++ F₀ := fun m => by obtain ⟨o, e⟩ := S1.lives I m; rw [hIn] at e; cases e
  have hLown : env.locals ∈ own := S.loc
  have hLI : env.locals ≠ I := fun q => hIF (List.mem_append_left _ (q ▸ hLown))
  have hLb : c.b0.get? env.locals = none := by
    cases e : c.b0.get? env.locals with
    | none => rfl
    | some o => have := S.base _ _ e; rw [S.fresh _ hLown] at this; cases this
  obtain ⟨mL, hNL2, _⟩ := S2.vars
  refine comp_enter (RR := fun acc C => compPost (model c.prog c.w) A E use Q acc C) cap hsc ev S2 hIg hρ fun D0 cenv own' s3 hcs hce hox S3 k3 hnew => ?_
  have hfresh : ∀ a ∈ own', a ∉ own ++ (I :: F₀) := fun a ha m => by obtain ⟨o, e⟩ := S2.lives a m; rw [hnew a ha] at e; cases e
  have hst3 : StK 0 s3.heap := W.frame 0 _ _ hst fun b _ o e => kpLe k3 b o e
  have hLF : env.locals ∈ own ++ (I :: F₀) := List.mem_append_left _ hLown
  have S3x : St c s2 (fun b => if b = I ∨ b = env.locals then none else s2.heap.get? b) own' (own ++ (I :: F₀)) cenv ρc (some (D0, .lst [])) s3 := by
    refine S3.back (fun b o q => ?_) (fun b o q => ?_) (fun a m => ?_)
    · split at q
      · cases q
      · rename_i h
        rw [if_neg (fun z => h (.inl z))]; exact q
    · have h1 : b ≠ env.locals := fun z => by rw [z, hLb] at q; cases q
      have h2 : b ≠ I := fun z => by have := S1.b0 _ _ q; rw [z, hIn] at this; cases this
      rw [if_neg (fun z => z.elim h2 h1)]; exact S2.b0 _ _ q
    · split
      · rfl
      · exact hnew a m
  refine start0 rfl (fun Q E hQ => hself 0 s3 Q E hst3 hQ) ?_
  refine Exists.elim (last_runX (D0 := D0) (L := env.locals) (elt := elt) (target := target) (items := items) (emb := emb) (e := e) (ρ' := ρ') (R := compPost (model c.prog c.w) A E use Q (.ref D0) cenv.locals) (ds := []) (F₁ := own ++ F₀) (os := fun x => (cellNames scope).contains x)
    ok hcs hce room (fun x hx _ => hox x (by
      have h1 := List.all_eq_true.mp hcell x (by simpa using hx)
      simpa using h1)) W hob (fun b hb m => by obtain ⟨o, e⟩ := hfpo b hb; rw [hnew b m] at e; cases e) S3x (List.mem_append_right _ (.head _)) (fun a => ⟨fun m => ⟨?_, fun q => hIF (q ▸ m)⟩, fun ⟨m, q⟩ => ?_⟩) (by simp) hst3
    (fun m => hfresh _ m hLF) (by simp) hLF hLI (fun m => hfpF _ m (List.mem_append_left _ hLown)) ⟨mL, hNL2.keeps (kpLe k3)⟩ hLb (fun i v h hi hP hk => hR _ i v h (fun a m => ?_) hi hP fun b o hb e => ?_) hasg hsub (he cenv s2 own' (own ++ (I :: F₀)) hcs hce) (by simpa using hz) (fun s4 S4 k4 kL4 => ?_)) fun Inv hx => Exists.elim hx fun N hx2 => loop_last0 Inv hx2.1 N hx2.2
  · rcases List.mem_append.mp m with m | m
    · exact List.mem_append_left _ m
    · exact List.mem_append_right _ (List.mem_cons_of_mem _ m)
  · rcases List.mem_append.mp m with m | m
    · exact List.mem_append_left _ m
    · exact List.mem_append_right _ ((List.mem_cons.mp m).resolve_left q)
  · rcases List.mem_append.mp m with m | m
    · exact .inr (hnew a m)
    · rcases List.mem_append.mp m with m | m
      · exact .inl (List.mem_cons_of_mem _ (List.mem_append_left _ m))
      · rcases List.mem_cons.mp m with rfl | m
        · exact .inl (.head _)
        · exact .inl (List.mem_cons_of_mem _ (List.mem_append_right _ m))
  · exact hk b o (fun m => by rw [hnew b m] at e; cases e) (fun q => hb (by rw [q]; exact .head _)) (fun q => hb (by rw [q]; exact List.mem_cons_of_mem _ (List.mem_append_left _ hLown))) (kpLe k3 b o e)
  · have S4' : St c s2 (fun b => if b = I ∨ b = env.locals then none else s2.heap.get? b) own' (own ++ F₀) cenv ρc (some (D0, .lst (items.map e))) s4 := by simpa using S4
    have keep : KpX env.locals s s4 := by
      refine ⟨((kpSame q1.1).trans (kpSame k2)).trans S4'.same, fun b o hbL e => ?_, fun o e => ?_⟩
      · have e1 := kpLe q1.1 b o e
        have hbI : b ≠ I := fun q => by rw [q, hIn] at e1; cases e1
        exact S4'.keep b o (by rw [if_neg (fun z => z.elim hbI hbL)]; exact kpLe k2 b o e1)
      · exact kL4 o (kpLe k3 _ _ (kpLe k2 _ _ (kpLe q1.1 _ _ e)))
    obtain ⟨m, hn, _⟩ := S4'.vars
    obtain ⟨hD1, hD2, vs, nn, ho, rl⟩ := S4'.mtd D0 _ rfl
    have hCn : s2.heap.get? cenv.locals = none := hnew _ S4'.loc
    refine hfin D0 cenv.locals m s4 keep hn ?_ (.lst (fun q => ?_) ho (rl.less fun a q => ?_))
    · cases e : s.heap.get? cenv.locals with
      | none => rfl
      | some o => have := kpLe k2 _ _ (kpLe q1.1 _ _ e); rw [hCn] at this; cases this
    · rcases List.mem_append.mp q with q | q
      · exact hfresh D0 hD1 (List.mem_append_left _ q)
      · rcases List.mem_cons.mp q with q | q
        · exact hD2 q
        · exact hfresh D0 hD1 (List.mem_append_right _ (List.mem_cons_of_mem _ q))
    · rcases List.mem_append.mp q with q | q
      · exact List.mem_append_right _ (List.mem_append_left _ q)
      · rcases List.mem_cons.mp q with rfl | q
        · exact List.mem_append_left _ S4'.loc
        · exact List.mem_append_right _ (List.mem_append_right _ q)

/-- law's own state as the slots of its frame turn and one more address stands around -/
theorem St.moreL {s' : Shared} {C : Addr} (S : St c s₀ g own F₀ env ρ mu s) (k : KpX env.locals s s') (hC : s.heap.get? C = none) (hC2 : ∃ o, s'.heap.get? C = some o) : St c s₀ g own (C :: F₀) env ρ mu s' := by
  obtain ⟨m, hn, hv⟩ := S.vars
  have hL : env.locals ∈ own ++ F₀ := List.mem_append_left _ S.loc
  have notL : ∀ b v, s.heap.IsCell b v → b ≠ env.locals := fun b v q z => ns_notCell hn (z ▸ q)
  have cell : ∀ b v, s.heap.IsCell b v → s'.heap.IsCell b v := fun b v q => by
    have hb := notL b v q
    obtain ⟨o, e, hd⟩ := q
    exact ⟨o, k.2.1 b o hb e, hd⟩
  have hF' : ∀ a o, s.heap.get? a = some o → a ∈ own ++ (C :: F₀) → a ∈ own ++ F₀ := fun a o e m => by
    rcases List.mem_append.mp m with m | m
    · exact List.mem_append_left _ m
    · rcases List.mem_cons.mp m with rfl | m
      · rw [hC] at e; cases e
      · exact List.mem_append_right _ m
  have hle : Le (own ++ F₀) s.heap s'.heap := fun b o hb e => k.2.1 b o (fun q => hb (by rw [q]; exact hL)) e
  have alive : ∀ a o, s.heap.get? a = some o → ∃ o', s'.heap.get? a = some o' := fun a o e => by
    by_cases q : a = env.locals
    · subst q; obtain ⟨sl, e'⟩ := k.2.2 o e; exact ⟨_, e'⟩
    · exact ⟨o, k.2.1 a o q e⟩
  refine ⟨S.same.trans k.1, S.base, fun b o e => k.2.1 b o (fun q => by rw [q, S.fresh _ S.loc] at e; cases e) (S.keep b o e), S.fresh, fun a m => ?_, S.loc, fun a m => let ⟨o, e⟩ := S.alive a m; alive a o e, ⟨m, k.ups.ns hn, fun x d q => ?_⟩, fun x kk hk e => let ⟨v, q⟩ := S.cells x kk hk e; ⟨v, cell _ _ q⟩, fun a md q => ?_⟩
  · rcases List.mem_cons.mp m with rfl | m
    · exact ⟨fun q => (by obtain ⟨o, e⟩ := S.alive _ q; rw [hC] at e; cases e), hC2⟩
    · obtain ⟨h1, o, e⟩ := S.live a m
      exact ⟨h1, alive a o e⟩
  · obtain ⟨v, r, z⟩ := hv x d q
    refine ⟨v, r.move hle hF', z.imp id fun ⟨p, kk, b, cc, i⟩ => ⟨p, kk, b, ?_, cell _ _ i⟩⟩
    rcases List.mem_append.mp cc with cc | cc
    · exact List.mem_append_left _ cc
    · exact List.mem_append_right _ (List.mem_cons_of_mem _ cc)
  · obtain ⟨h1, h2, h3⟩ := S.mtd a md q
    refine ⟨h1, h2, ?_⟩
    cases md with
    | lst ds => obtain ⟨vs, nn, e, r⟩ := h3; exact ⟨vs, nn, k.2.1 _ _ h2 e, r.move hle hF'⟩
    | dct kvs => obtain ⟨hm, es, nn, e, r⟩ := h3; exact ⟨hm, es, nn, k.2.1 _ _ h2 e, r⟩

theorem ex_compX {α : Type} {elt target iter : Expr} {x : Str} {p cpos pos : Pos} {items : List α} {emb : α → D} {e : α → D} {ρ' : α → Vars} {ρ2 : Vars} {Q : Flow → Shared → Prop} {rest : List Stmt}
    (f : Fm c n sc env own A) (S : St c s₀ g own F₀ env ρ mu s) (cap : Cap scope sc)
    (hit : Ev c n sc ρ mu iter (.lst (items.map emb))) (hq : Quiet target) (hρ : ∀ q ∈ ρc, q ∈ ρ ∧ scope.names.lookup q.1 = some .free)
    (hasg : ∀ a ∈ items, ∀ mu, Asg c (relabelS scope sc) (fun x => (cellNames scope).contains x) mu target (emb a) ρc (ρ' a)) (hsub : ∀ a ∈ items, ∀ q ∈ ρc, q ∈ ρ' a)
    (he : ∀ cenv s2 own' F, cenv.scope = relabelS scope sc → EnvOk cenv → ∀ a ∈ items, EvX c A cenv s2 own' F env.locals (ρ' a) elt (e a)) (hz : items.length ≤ 100000)
    (U : Upd1 x (.lst (items.map e)) ρ ρ2) (hx : sc.names.lookup x = some .local) (hline : (p.line == cpos.line) = true) (hnames : (scope.names.any fun (q : Str × NameKind) => q.1 == x && (q.2 == .local || q.2 == .cell)) = false)
    (k : ∀ s', St c s₀ g own F₀ env ρ2 mu s' → Ex c A env rest Q E s')
    (hs : ∀ env x, foldedSetIterable iter env x = pure x) (hcell : (cellNames scope).all (fun x => scope.names.lookup x == some .cell) = true) :
    Ex c A env (.Assign [.Name x p] (.ListComp elt [⟨target, iter, [], 0⟩] scope cpos) pos :: rest) Q E s := by
  have hxk : env.kindOf x = some .local := by unfold Env.kindOf; rw [f.hsc]; exact hx
  have hsw : swapsWith (.ListComp elt [⟨target, iter, [], 0⟩] scope cpos) (some (.Name x p)) pos.line env = pure true := by
    unfold swapsWith
    have hb : env.blockKind = .function := by unfold Env.blockKind; rw [f.ev.kind]; rfl
    have hl : (p.line == (Expr.ListComp elt [⟨target, iter, [], 0⟩] scope cpos).pos.line) = true := hline
    have hn' : (scope.names.any fun (n, k) => n == x && (k == NameKind.local || k == NameKind.cell)) = false := hnames
    show (pure (env.blockKind == .function && env.kindOf x == some .local && p.line == (Expr.ListComp elt [⟨target, iter, [], 0⟩] scope cpos).pos.line && !(scope.names.any fun (n, k) => n == x && (k == NameKind.local || k == NameKind.cell))) : Sem Bool) = pure true
    rw [hb, hxk, hl, hn']; rfl
  refine ⟨wpAny_execs_cons ?_⟩
  rw [exec_Assign_Name_used _ _ _ _ hsw]
  refine wpAny_bind (wpAny_standAt (wpAny_bind ?_))
  show wpAny _ A (do let _ ← comprehension (.ListComp elt [⟨target, iter, [], 0⟩] scope cpos) scope env (firstIterPos [⟨target, iter, [], 0⟩] cpos) (newList []) (firstAsync [⟨target, iter, [], 0⟩]) (eval iter env) (some (assign (.Name x p) env))) _ _ s
  refine wpAny_bind (wpAny_mono (comp_mainX (Q := fun _ s' => St c s₀ g own F₀ env ρ2 mu s') (use := some (assign (.Name x p) env)) f S cap hs hcell hit hq hρ hasg hsub he hz fun D0 C m s' kx hn hC r => ?_) (fun _ s' S' => wpAny_pure (wpAny_pure (k s' S').go)) fun _ _ e => e)
  show wpAny _ A (assign (.Name x p) env (.ref D0)) _ E s'
  have hCo : ∃ o, s'.heap.get? C = some o := let ⟨o, _, _, e, _⟩ := hn; ⟨o, e⟩
  have S1 : St c s₀ g own (C :: F₀) env ρ mu s' := S.moreL kx hC hCo
  have hCown : C ∉ own := (S1.live C (.head _)).1
  have hCg : g C = none := by
    cases e : g C with
    | none => rfl
    | some o => have := S.keep _ _ e; rw [hC] at this; cases this
  have hCF : C ∉ F₀ := fun q => by obtain ⟨_, o, e⟩ := S.live C q; rw [hC] at e; cases e
  refine wpAny_assign_Name (st_storeL f.ev S1.hide U r hxk fun s'' S2 => ?_)
  have hn2 : s''.heap.Ns C m := hn.at' fun o e => S2.kept _ _ hCown e
  have S3 := S1.unhide S2
  refine ⟨m, hn2, fun h' hs' => ?_⟩
  have notc : ∀ v, ¬ s''.heap.IsCell C v := fun v q => ns_notCell hn2 q
  refine S3.turn [C] ⟨h', s''.toks, rfl⟩ (fun b o hb e => (hs'.2 b (fun q => hb (by rw [q]; exact .head _))).trans e) (fun a q => by rw [List.mem_singleton.mp q]; exact hCown) (fun a q => by rw [List.mem_singleton.mp q]; exact hCg) (fun a q o _ => by rw [List.mem_singleton.mp q]; exact .head _)
    (fun a q v i => notc v (by rw [List.mem_singleton.mp q] at i; exact i)) (fun a o _ q => List.mem_cons_of_mem _ q) (fun a q => ?_) (fun a v i q => ?_)
  · obtain ⟨h1, o, e⟩ := S3.live a (List.mem_cons_of_mem _ q)
    exact ⟨h1, o, (hs'.2 a (fun z => hCF (z ▸ q))).trans e⟩
  · rcases List.mem_cons.mp q with rfl | q
    · exact absurd i (notc v)
    · exact q
end
end Mine

namespace Mine
section
variable {c : Cx} {n : Nat} {sc : Scope} {s₀ : Shared} {own F₀ : List Addr} {env : Env} {A : Around} {L : Addr} {ρ : Vars}
theorem EvX.of {e : Expr} {d : D} (ok : c.Ok) (hsc : env.scope = sc) (ev : EnvOk env) (room : Room A n) (h : ∀ mu, Ev c n sc ρ mu e d) : EvX c A env s₀ own F₀ L ρ e d := fun E mu g s hg hn S =>
  wpAny_mono ((h mu).run ok A E env s₀ g own F₀ s hsc ev room S) (fun v s' q => ⟨.of q.1, q.2⟩) fun _ _ e => e
theorem EvX.call {fn : Str} {fp cp : Pos} {arg : Expr} {a : Addr} {fd : FuncData} {oc : Value} {od : Option Addr} {osl : Array (Option Value)} {ds : List D} {r : D} (ok : c.Ok) (hsc : env.scope = sc) (ev : EnvOk env) (room : Room A n)
    (hfn : ∀ mu, Ev c n sc ρ mu (.Name fn fp) (.ptr (.ref a))) (ho : c.K.lookup a = some ⟨oc, od, .func fd, osl⟩) (ha : ∀ mu, EvL c n sc ρ mu [arg] ds) (hs : starEach [arg] env = [(false, eval arg env)])
    (h : ∀ mu g s' vs, (∃ m, s'.heap.Ns L m) → St c s₀ g own F₀ env ρ mu s' → RepL (own ++ F₀) s'.heap vs ds → codeAny (model c.prog c.w) A (.call (.ref a) ⟨vs, []⟩) (fun res s'' => ∃ v, res = .ok (.ret v) ∧ KpX L s' s'' ∧ Rep (own ++ F₀) s''.heap v r) s') :
    EvX c A env s₀ own F₀ L ρ (.Call (.Name fn fp) [arg] [] cp) r := fun E mu g s hg hn S => by
  obtain ⟨m, hn⟩ := hn
  refine Call_Name rfl (wpAny_mono ((hfn mu).run ok A E env s₀ g own F₀ s hsc ev room S) (fun v s1 q1 => ?_) fun _ _ e => e)
  obtain ⟨k1, r1⟩ := q1
  (first | refine Rep.eint r1 fun _ => ?_ | refine Rep.eptr r1 ?_ | refine Rep.estr r1 fun _ => ?_ | refine Rep.eflt r1 fun _ => ?_ | refine Rep.ebool r1 ?_)
  have S1 := S.more k1
  rw [hs]
  refine callWith_function (o := ⟨oc, od, .func fd, osl⟩) (fd := fd) (Calls.evalArgs_plain ?_)
  have ha' := (ha mu).run ok A E env s₀ g own F₀ s1 cp hsc ev room S1
  rw [hs] at ha'
  refine wpAny_mono ha' (fun vs s2 q2 => ?_) fun _ _ e => e
  have S2 := S1.more q2.1
  refine ⟨⟨S2.b0 _ _ (ok.X _ _ ho), rfl⟩, wpAny_call (codeAny_mono (h mu g s2 vs ⟨m, (hn.keeps (kpLe k1)).keeps (kpLe q2.1)⟩ S2 q2.2) fun res s3 q3 => ?_)⟩
  obtain ⟨v, rfl, k3, r3⟩ := q3
  exact ⟨(KpX.of (kpTrans k1 q2.1)).trans k3, r3⟩
end
end Mine

end
section
open PySem.Calls
set_option maxHeartbeats 1000000
namespace Mine
noncomputable def dPairs : List (Int × Int) := [(0, 1), (0, 2), (0, 3), (1, 2), (1, 3), (2, 3)]
section
variable {c : Cx} {n : Nat} {sc : Scope} {ρ : Vars} {mu : Option (Addr × M)}
theorem Ev.to {e : Expr} {d d' : D} (h : Ev c n sc ρ mu e d') (q : d' = d) : Ev c n sc ρ mu e d := q ▸ h
theorem Tr.to {e : Expr} {b b' : Bool} (h : Tr c n sc ρ mu e b') (q : b' = b) : Tr c n sc ρ mu e b := q ▸ h
theorem Ev.gI {x : Str} {pos : Pos} {i : Int} {t : Tok} (hK : c.K = HK c.w.params) (hk : sc.names.lookup x = some .globalImplicit) (e : nsIn (HK c.w.params) mainGlobals x = some (some (.int i t))) (hd : (x == ("__debug__" : Str)) = false := by decide) : Ev c n sc ρ mu (.Name x pos) (.int i) := Ev.globI hk (hK ▸ e) hd
theorem Ev.gP {x : Str} {pos : Pos} {a : Addr} (hK : c.K = HK c.w.params) (hk : sc.names.lookup x = some .globalImplicit) (e : nsIn (HK c.w.params) mainGlobals x = some (some (.ref a))) (hd : (x == ("__debug__" : Str)) = false := by decide) : Ev c n sc ρ mu (.Name x pos) (.ptr (.ref a)) := Ev.glob hk (hK ▸ e) hd
theorem Ev.gB {x : Str} {pos : Pos} {v : Value} (hK : c.K = HK c.w.params) (hk : sc.names.lookup x = some .globalImplicit) (e : nsIn (HK c.w.params) mainGlobals x = some none) (hv : bootBuiltins x = some v) (hn : x ≠ "__name__" := by decide) (hd : (x == ("__debug__" : Str)) = false := by decide) : Ev c n sc ρ mu (.Name x pos) (.ptr v) := Ev.blt hk (hK ▸ e) hv hn hd
end

-- own lines of the walk
local macro_rules | `(tactic| walk_at "mem") => `(tactic| with_reducible first | exact List.mem_cons_self | exact List.mem_cons_of_mem _ (List.mem_cons_self) | exact List.mem_cons_of_mem _ (List.mem_cons_of_mem _ (List.mem_cons_self)) | exact List.mem_cons_of_mem _ (List.mem_cons_of_mem _ (List.mem_cons_of_mem _ (List.mem_cons_self))) | exact List.mem_cons_of_mem _ (List.mem_cons_of_mem _ (List.mem_cons_of_mem _ (List.mem_cons_of_mem _ (List.mem_cons_self)))) | exact List.mem_cons_of_mem _ (List.mem_cons_of_mem _ (List.mem_cons_of_mem _ (List.mem_cons_of_mem _ (List.mem_cons_of_mem _ (List.mem_cons_self))))) | exact List.mem_cons_of_mem _ (List.mem_cons_of_mem _ (List.mem_cons_of_mem _ (List.mem_cons_of_mem _ (List.mem_cons_of_mem _ (List.mem_cons_of_mem _ (List.mem_cons_self)))))) | exact List.mem_cons_of_mem _ (List.mem_cons_of_mem _ (List.mem_cons_of_mem _ (List.mem_cons_of_mem _ (List.mem_cons_of_mem _ (List.mem_cons_of_mem _ (List.mem_cons_of_mem _ (List.mem_cons_self))))))) | exact List.mem_cons_of_mem _ (List.mem_cons_of_mem _ (List.mem_cons_of_mem _ (List.mem_cons_of_mem _ (List.mem_cons_of_mem _ (List.mem_cons_of_mem _ (List.mem_cons_of_mem _ (List.mem_cons_of_mem _ (List.mem_cons_self)))))))) | exact List.mem_cons_of_mem _ (List.mem_cons_of_mem _ (List.mem_cons_of_mem _ (List.mem_cons_of_mem _ (List.mem_cons_of_mem _ (List.mem_cons_of_mem _ (List.mem_cons_of_mem _ (List.mem_cons_of_mem _ (List.mem_cons_of_mem _ (List.mem_cons_self))))))))) | exact List.mem_cons_of_mem _ (List.mem_cons_of_mem _ (List.mem_cons_of_mem _ (List.mem_cons_of_mem _ (List.mem_cons_of_mem _ (List.mem_cons_of_mem _ (List.mem_cons_of_mem _ (List.mem_cons_of_mem _ (List.mem_cons_of_mem _ (List.mem_cons_of_mem _ (List.mem_cons_self)))))))))) | exact List.mem_cons_of_mem _ (List.mem_cons_of_mem _ (List.mem_cons_of_mem _ (List.mem_cons_of_mem _ (List.mem_cons_of_mem _ (List.mem_cons_of_mem _ (List.mem_cons_of_mem _ (List.mem_cons_of_mem _ (List.mem_cons_of_mem _ (List.mem_cons_of_mem _ (List.mem_cons_of_mem _ (List.mem_cons_self))))))))))) | exact List.mem_cons_of_mem _ (List.mem_cons_of_mem _ (List.mem_cons_of_mem _ (List.mem_cons_of_mem _ (List.mem_cons_of_mem _ (List.mem_cons_of_mem _ (List.mem_cons_of_mem _ (List.mem_cons_of_mem _ (List.mem_cons_of_mem _ (List.mem_cons_of_mem _ (List.mem_cons_of_mem _ (List.mem_cons_of_mem _ (List.mem_cons_self)))))))))))) | exact List.mem_cons_of_mem _ (List.mem_cons_of_mem _ (List.mem_cons_of_mem _ (List.mem_cons_of_mem _ (List.mem_cons_of_mem _ (List.mem_cons_of_mem _ (List.mem_cons_of_mem _ (List.mem_cons_of_mem _ (List.mem_cons_of_mem _ (List.mem_cons_of_mem _ (List.mem_cons_of_mem _ (List.mem_cons_of_mem _ (List.mem_cons_of_mem _ (List.mem_cons_self))))))))))))) | exact List.mem_cons_of_mem _ (List.mem_cons_of_mem _ (List.mem_cons_of_mem _ (List.mem_cons_of_mem _ (List.mem_cons_of_mem _ (List.mem_cons_of_mem _ (List.mem_cons_of_mem _ (List.mem_cons_of_mem _ (List.mem_cons_of_mem _ (List.mem_cons_of_mem _ (List.mem_cons_of_mem _ (List.mem_cons_of_mem _ (List.mem_cons_of_mem _ (List.mem_cons_of_mem _ (List.mem_cons_self)))))))))))))) | exact List.mem_cons_of_mem _ (List.mem_cons_of_mem _ (List.mem_cons_of_mem _ (List.mem_cons_of_mem _ (List.mem_cons_of_mem _ (List.mem_cons_of_mem _ (List.mem_cons_of_mem _ (List.mem_cons_of_mem _ (List.mem_cons_of_mem _ (List.mem_cons_of_mem _ (List.mem_cons_of_mem _ (List.mem_cons_of_mem _ (List.mem_cons_of_mem _ (List.mem_cons_of_mem _ (List.mem_cons_of_mem _ (List.mem_cons_self))))))))))))))))
local macro_rules | `(tactic| walk_at "hits") => `(tactic| first | exact hits_nil | (refine hits_cons ?_ ?_ <;> first | (dsimp only; decide) | walk_at "hits"))
local macro_rules | `(tactic| walk_at "upd") => `(tactic| first | exact Upd1.nil | exact Upd1.skip (by decide) (by walk_at "upd") | exact Upd1.hit (by walk_at "hits"))
local macro_rules | `(tactic| walk_at "ev") => `(tactic| first 
  | ((with_reducible show Ev _ _ _ _ _ (Expr.Constant _ _ _) _); first | exact Ev.cint | exact Ev.cstr | exact Ev.cflt | exact Ev.cbool) 
  | ((with_reducible show Ev _ _ _ _ _ (Expr.Name _ _) _); first | exact Ev.var (by walk_at "mem") | exact Ev.gI (by assumption) rfl rfl | exact Ev.gP (by assumption) rfl rfl | exact Ev.gB (by assumption) rfl rfl rfl) 
  | ((with_reducible show EvL _ _ _ _ _ [] _); first | exact EvL.nil) 
  | ((with_reducible show EvL _ _ _ _ _ (_ :: _) _); first | exact EvL.cons (by walk_at "ev") (by walk_at "ev")) 
  | ((with_reducible show Ev _ _ _ _ _ (Expr.Tuple _ _ _) _); first | exact Ev.tuple (by walk_at "ev") (hz := by exact Nat.le_of_ble_eq_true rfl)) 
  | ((with_reducible show Ev _ _ _ _ _ (Expr.List _ _) _); first | exact Ev.list (by walk_at "ev") (hz := by exact Nat.le_of_ble_eq_true rfl)) 
  | ((with_reducible show Ev _ _ _ _ _ (Expr.BinOp _ _ _ _) _); first | exact Ev.bin (by walk_at "ev") (by walk_at "ev") (by walk_at "ev")) 
  | ((with_reducible show Ev _ _ _ _ _ (Expr.Compare _ _ _ _) _); first | exact Ev.cmp (by walk_at "ev") (by walk_at "ev") (by walk_at "ev")) 
  | ((with_reducible show Tr _ _ _ _ _ (Expr.Compare _ _ _ _) _); first | exact Tr.cmp (by walk_at "ev") (by walk_at "ev") (by walk_at "ev")) 
  | ((with_reducible show Ev _ _ _ _ _ (Expr.UnaryOp UnaryOp.USub _ _) _); first | exact Ev.neg (by walk_at "ev")) 
  | ((with_reducible show Tr _ _ _ _ _ (Expr.UnaryOp UnaryOp.Not _ _) _); first | exact Tr.not (by walk_at "ev")) 
  | ((with_reducible show Tr _ _ _ _ _ (Expr.BoolOp BoolOp.And _ _) _); first | exact Tr.and2 (by walk_at "ev") fun _ => (by walk_at "ev")) 
  | ((with_reducible show Tr _ _ _ _ _ (Expr.BoolOp BoolOp.Or _ _) _); first | exact Tr.or2 (by walk_at "ev") fun _ => (by walk_at "ev")) 
  | ((with_reducible show TrS _ _ _ _ _ [] _); first | exact TrS.nil) 
  | ((with_reducible show TrS _ _ _ _ _ [_] _); first | exact TrS.one (by walk_at "ev")) 
  | ((with_reducible show BinV _ _ _ _); first | exact BinV.add | exact BinV.sub | exact BinV.and | exact BinV.or | exact BinV.fadd | exact BinV.fsub | exact BinV.fmod (by decide) | exact BinV.fdiv (by decide) (by decide)) 
  | ((with_reducible show InpV _ _ _ _); first | exact InpV.add) 
  | ((with_reducible show CmpV _ _ _ _); first | exact CmpV.eq | exact CmpV.ne | exact CmpV.lt | exact CmpV.gt | exact CmpV.le | exact CmpV.ge | exact CmpV.seq | exact CmpV.sne | exact CmpV.feq | exact CmpV.flt | exact CmpV.fle)
  | ((with_reducible show Ev _ _ _ _ _ (Expr.Call (Expr.Name _ _) (_ :: _) [] _) _); exact Ev.bltc (by walk_at "ev") (by walk_at "ev") (by walk_at "ev") (by first | exact .inl ⟨_, rfl⟩ | exact .inr ⟨_, rfl⟩) (by simp))
  | ((with_reducible show CallV _ _ _); first | exact CallV.lenL (by walk_at "fits") | exact CallV.min2 | exact CallV.max2 | exact CallV.rng1 | exact CallV.rng2 | exact CallV.max3 | exact CallV.min3 | exact CallV.sum | exact CallV.isiT | exact CallV.isiS | exact CallV.isiI | exact CallV.lenD (by walk_at "fits"))
  | ((with_reducible show Ev _ _ _ _ _ (Expr.IfExp _ _ _ _) _); first | exact Ev.ifI (by walk_at "ev") (by walk_at "ev") (by walk_at "ev") | exact Ev.ifS (by walk_at "ev") (by walk_at "ev") (by walk_at "ev"))
  | ((with_reducible show Tr _ _ _ _ _ _ _); first | exact Tr.plain (by walk_at "ev") TruV.bool | exact Tr.plain (by walk_at "ev") TruV.int)
  | ((with_reducible show BinV .RShift _ _ _); exact BinV.shr (by walk_at "fits"))
  | ((with_reducible show BinV .Mult _ _ _); first | exact BinV.mul (IntMulOk.of_left (by decide)) | exact BinV.mul (IntMulOk.of_right (by decide)))
  | ((with_reducible show Ev _ _ _ _ _ (Expr.Call (Expr.Attribute _ _ _) [] [] _) _); first | exact Ev.items (by walk_at "ev") rfl (by intro _; rfl) | exact Ev.values (by walk_at "ev") rfl (by intro _; rfl))
  | ((with_reducible show BinV .Div _ _ _); first | exact BinV.idiv (by decide +kernel) (by decide +kernel) | exact BinV.fdivF (by assumption))
  | walk_at "evx")
local macro_rules | `(tactic| walk_at "fits") => `(tactic| first | assumption | omega | (simp only [List.length_map, List.length_range, List.length_cons, List.length_nil]; omega) | (simp; omega))
local macro_rules | `(tactic| walk_at "cap") => `(tactic| exact ⟨rfl, rfl, by rfl, by rfl, by rfl⟩)
local macro_rules | `(tactic| walk_at "caps") => `(tactic| first | exact caps_nil | exact caps_cons (by walk_at "mem") rfl (by walk_at "caps"))
local macro_rules | `(tactic| walk_at "subl") => `(tactic| first | exact subl_nil | exact subl_cons (by walk_at "mem") (by walk_at "subl"))
local macro_rules | `(tactic| walk_at "nm") => `(tactic| first | exact .inl rfl | exact .inr rfl | exact .inr ⟨rfl, rfl⟩)
local macro_rules | `(tactic| walk_at "asg") => `(tactic| first | exact Asg.name (by walk_at "upd") (by walk_at "nm") | exact Asg.tuple (AsgL.cons (by walk_at "upd") (by walk_at "nm") (AsgL.cons (by walk_at "upd") (by walk_at "nm") AsgL.nil)) names2 | exact Asg.tuple (AsgL.cons (by walk_at "upd") (by walk_at "nm") (AsgL.cons (by walk_at "upd") (by walk_at "nm") (AsgL.cons (by walk_at "upd") (by walk_at "nm") AsgL.nil))) names3)
local macro_rules | `(tactic| walk_at "asgl") => `(tactic| exact AsgL.cons (by walk_at "upd") (by walk_at "nm") (AsgL.cons (by walk_at "upd") (by walk_at "nm") AsgL.nil))
local macro_rules | `(tactic| walk_at "evx") => `(tactic| ((with_reducible show Ev _ _ _ _ _ (Expr.Subscript _ _ _) _); exact Ev.sub (by walk_at "ev") (by walk_at "ev") (by assumption)))

section
variable {c : Cx} (hK : c.K = HK c.w.params)
include hK

theorem ok_isterm {x : Int} : FnOK c 1 77 [.int x] (.bool (decide (x < 256))) := by
  refine fn_enter (n := 0) [Str.ofString "x"] (ho := by rw [hK]; rfl) (hcd := by rw [hK]; rfl) ?_ ?_ ?_ ?_ ?_
  · intro vs h
    rcases vs with _ | ⟨v, _ | _⟩ <;> first | rfl | simp at h
  · rfl
  · decide
  · rfl
  · intro A E env own F₀ s₀ s f S
    simp only [List.zip_cons_cons, List.zip_nil_right] at S
    refine ex_ret f S (by walk_at "ev") fun v s' S' r => ⟨v, rfl, S'.fewer (fun _ h => nomatch h), r⟩

theorem ok_pairs : FnOK c 1 91 [] (.lst (dPairs.map dPair)) := by
  refine fn_enter (n := 0) [] (ho := by rw [hK]; rfl) (hcd := by rw [hK]; rfl) ?_ ?_ ?_ ?_ ?_
  · intro vs h
    rcases vs with _ | _
    · rfl
    · cases h
  · rfl
  · exact .nil
  · rfl
  · intro A E env own F₀ s₀ s f S
    exact ex_ret (d := .lst (dPairs.map dPair)) f S (by walk_at "ev") fun v s' S' r => ⟨v, rfl, S'.fewer (fun _ h => nomatch h), r⟩

noncomputable def dueD (one two kind : Int) : D :=
  if kind = 0 then .tup [.int one, .int two, .bool true] else if kind = 1 then .tup [.int two, .int one, .bool true] else if kind < 4 then .tup [.int one, .int two, .bool false] else if kind = 4 then .str "refused" else .str "nothing"

theorem ok_due {x one two : Int} (hp : dPairs[(x.fmod 6).toNat]? = some (one, two)) (h0 : 0 ≤ x.fmod 6) (h1 : x.fmod 6 < 6) : FnOK c 2 105 [.int x] (dueD one two ((x.fdiv 6).fmod 6)) := by
  refine fn_enter (n := 1) [Str.ofString "x"] (ho := by rw [hK]; rfl) (hcd := by rw [hK]; rfl) ?_ ?_ ?_ ?_ ?_
  · intro vs h
    rcases vs with _ | ⟨v, _ | _⟩ <;> first | rfl | simp at h
  · rfl
  · decide
  · rfl
  · intro A E env own F₀ s₀ s f S
    simp only [List.zip_cons_cons, List.zip_nil_right] at S
    refine ex_assignA f S (Ev.sub (Ev.call0 (by walk_at "ev") (by rw [hK]; rfl) (ok_pairs hK) (by decide)) (by walk_at "ev") (SubV.lst h0 (by omega) (d := dPair (one, two)) (by simp [hp]))) (Asg.tuple (AsgL.cons (by walk_at "upd") (.inl rfl) (AsgL.cons (by walk_at "upd") (.inl rfl) AsgL.nil)) ?_) (fun s1 S1 => ?_) rfl rfl rfl
    · intro t ht
      simp only [List.mem_cons, List.not_mem_nil, or_false] at ht
      rcases ht with rfl | rfl <;> exact ⟨_, _, rfl⟩
    refine ex_assign f S1 (by walk_at "ev") (by walk_at "upd") (.inl rfl) rfl fun s2 S2 => ?_
    unfold dueD
    generalize (x.fdiv 6).fmod 6 = kind at *
    refine ex_if f S2 (by walk_at "ev") (fun hb s3 S3 => ?_) (fun hb s3 S3 => ex_nil ?_)
    · have hk : kind = 0 := by simpa using hb
      rw [if_pos hk]
      exact ex_ret f S3 (by walk_at "ev") fun v s' S' r => ⟨v, rfl, S'.fewer (fun _ h => nomatch h), r⟩
    have hk : ¬ kind = 0 := by simpa using hb
    rw [if_neg hk]
    refine ex_if f S3 (by walk_at "ev") (fun hb s4 S4 => ?_) (fun hb s4 S4 => ex_nil ?_)
    · have hk : kind = 1 := by simpa using hb
      rw [if_pos hk]
      exact ex_ret f S4 (by walk_at "ev") fun v s' S' r => ⟨v, rfl, S'.fewer (fun _ h => nomatch h), r⟩
    have hk : ¬ kind = 1 := by simpa using hb
    rw [if_neg hk]
    refine ex_if f S4 (by walk_at "ev") (fun hb s5 S5 => ?_) (fun hb s5 S5 => ex_nil ?_)
    · have hk : kind < 4 := by simpa using hb
      rw [if_pos hk]
      exact ex_ret f S5 (by walk_at "ev") fun v s' S' r => ⟨v, rfl, S'.fewer (fun _ h => nomatch h), r⟩
    have hk : ¬ kind < 4 := by simpa using hb
    rw [if_neg hk]
    refine ex_ret f S5 (Ev.ifx (by walk_at "ev") (fun hb => ?_) (fun hb => ?_)) fun v s' S' r => ⟨v, rfl, S'.fewer (fun _ h => nomatch h), r⟩
    · have hk : kind = 4 := by simpa using hb
      rw [if_pos hk]
      walk_at "ev"
    · have hk : ¬ kind = 4 := by simpa using hb
      rw [if_neg hk]
      walk_at "ev"
end
noncomputable def drawsAt (ns : List Int) : Nat → List Int
  | 0 => [36, 122, 83, 201, 106]
  | k + 1 => (drawsAt ns k).set (k % 5) ((drawsAt ns k).getD (k % 5) 0 + (ns.getD k 0).fmod 1000000)
theorem drawsAt_len (ns : List Int) : ∀ k, (drawsAt ns k).length = 5
  | 0 => rfl
  | k + 1 => by rw [drawsAt, List.length_set, drawsAt_len ns k]
section
variable {c : Cx} (hK : c.K = HK c.w.params)
include hK
theorem ok_draws {ns : List Int} (hz : ns.length ≤ 1000) : FnOK c 1 84 [.lst (ns.map .int)] (.lst ((drawsAt ns (min ns.length 15)).map .int)) := by
  refine fn_enter (n := 0) [Str.ofString "script"] (ho := by rw [hK]; rfl) (hcd := by rw [hK]; rfl) ?_ ?_ ?_ ?_ ?_
  · intro vs h
    rcases vs with _ | ⟨v, _ | _⟩ <;> first | rfl | simp at h
  · rfl
  · decide
  · rfl
  · intro A E env own F₀ s₀ s f S
    simp only [List.zip_cons_cons, List.zip_nil_right] at S
    have hz' : (ns.map D.int).length ≤ 1000000 := by simp; omega
    refine ex_assign_newlist f S (ds := [.int 36, .int 122, .int 83, .int 201, .int 106]) (by walk_at "ev") (by decide) (fun a => by walk_at "upd") (.inl rfl) rfl fun a s1 ha S1 => ?_
    have f1 := f.more (own' := a :: own) fun _ m => List.mem_cons_of_mem _ m
    have hmin : (if (15 : Int) < ((ns.map D.int).length : Nat) then 15 else (((ns.map D.int).length : Nat) : Int)) = ((min ns.length 15 : Nat) : Int) := by
      rw [List.length_map]; split <;> omega
    refine ex_forR (N := min ns.length 15) (a := 0) (b := (min ns.length 15 : Nat)) (ρ := fun _ => [(Str.ofString "script", .lst (ns.map .int)), (Str.ofString "draws", .ptr (.ref a))])
      (ρ' := fun i => [(Str.ofString "script", .lst (ns.map .int)), (Str.ofString "draws", .ptr (.ref a)), (Str.ofString "k", .int (0 + (i : Int)))])
      (mu := fun i => some (a, .lst ((drawsAt ns i).map .int))) (stop := fun _ => False) (dr := fun _ => .none) f1 S1 (by rw [← hmin]; walk_at "ev") ?_ ?_ ?_ ?_ ?_ ?_ ?_ ?_ ?_ ?_ ?_
    · omega
    · omega
    · omega
    · omega
    · omega
    · intro i hi; walk_at "upd"
    · exact .inl rfl
    · intro E i g' F₁ s' hi S'
      have h5 : (((i : Int).fmod 5).toNat) = i % 5 := by rw [Int.fmod_eq_emod_of_nonneg _ (by omega)]; omega
      have hg : ((drawsAt ns i).map D.int)[i % 5]? = some (.int ((drawsAt ns i).getD (i % 5) 0)) := by
        have : i % 5 < (drawsAt ns i).length := by rw [drawsAt_len]; omega
        simp [List.getD, this]
      have hs : (ns.map D.int)[i]? = some (.int (ns.getD i 0)) := by
        have : i < ns.length := by omega
        simp [List.getD, this]
      refine ex_augsub f1 S' (by walk_at "mem") (by walk_at "ev") (v0 := (drawsAt ns i).getD (i % 5) 0) ?_ ?_ ?_ (Ev.bin (Ev.sub (by walk_at "ev") (by walk_at "ev") (SubV.lst ?_ ?_ (d := .int (ns.getD i 0)) ?_)) (by walk_at "ev") (by walk_at "ev")) (by decide) (by intro _ _ _; rfl) fun s2 S2 => ex_nil ?_
      · rw [Int.fmod_eq_emod_of_nonneg _ (by omega)]; omega
      · rw [Int.fmod_eq_emod_of_nonneg _ (by omega)]; omega
      · rw [show (0 + (i : Int)) = i by omega, h5]; exact hg
      · omega
      · omega
      · rw [show (0 + (i : Int)) = i by omega]; simpa using hs
      · show St _ _ _ _ _ _ _ _ _
        rw [show (0 + (i : Int)) = i by omega, h5] at S2
        have e : (drawsAt ns (i + 1)).map D.int = ((drawsAt ns i).map D.int).set (i % 5) (.int ((drawsAt ns i).getD (i % 5) 0 + (ns.getD i 0).fmod 1000000)) := by
          rw [drawsAt, List.map_set]
        rw [e]
        exact S2.fewer (by intro p hp; simp only [List.mem_cons, List.not_mem_nil, or_false] at hp ⊢; rcases hp with h | h <;> simp [h])
    · intro s' S'
      have S2 : St c s₀ s₀.heap.get? own F₀ env [(Str.ofString "draws", .lst ((drawsAt ns (min ns.length 15)).map .int))] none s' := S'.freezeL (fun q => ha (q ▸ S.loc)) S.loc ha f.oc (by
        intro x d h
        simp only [List.mem_cons, List.not_mem_nil, or_false, Prod.mk.injEq] at h
        obtain ⟨rfl, rfl⟩ := h
        exact .inr ⟨rfl, by walk_at "mem"⟩)
      exact ex_ret f S2 (by walk_at "ev") fun v s' S' r => ⟨v, rfl, S'.fewer (fun _ h => nomatch h), r⟩
    · intro _ _ _ _ h; exact h.elim
    · intro v; rfl
end
noncomputable def bitI (x k : Int) : Bool := Builtin.bitAnd (x.fdiv (2 ^ k.toNat)) 1 != 0
noncomputable def wrongB (cr lo : Int) (t : Tie) : Bool := bitI lo t.2.1 && bitI (if t.2.2 then cr else lo) t.1
noncomputable def stepF (ts : List Tie) (ways : List Int) (cr lo found : Int) : Int := if (Builtin.bitAnd lo cr == lo && (ts.filter (wrongB cr lo)).isEmpty) then found + ways.getD (cr - lo).toNat 0 else found
noncomputable def foundAt (ts : List Tie) (ways : List Int) (cr : Int) : Nat → Int
  | 0 => 0
  | j + 1 => stepF ts ways cr (1 + (j : Int)) (foundAt ts ways cr j)
noncomputable def waysAt (ts : List Tie) : Nat → List Int
  | 0 => [1]
  | i + 1 => waysAt ts i ++ [100 * foundAt ts (waysAt ts i) (1 + (i : Int)) (i + 1)]
noncomputable def levelsR (ts : List Tie) : List Int := (List.range 5).map fun j => (((waysAt ts 15).getD 15 0).fdiv (100 ^ j)).fmod 100
theorem waysAt_len (ts : List Tie) : ∀ i, (waysAt ts i).length = i + 1
  | 0 => rfl
  | i + 1 => by rw [waysAt, List.length_append, waysAt_len ts i]; rfl
theorem getD_int (l : List Int) (i : Nat) (h : i < l.length) : (l.map D.int)[i]? = some (.int (l.getD i 0)) := by simp [List.getD, h]

section
variable {c : Cx} (hK : c.K = HK c.w.params)
include hK
theorem ok_levels (ts : List Tie) (hz : ts.length ≤ 5) (hts : ∀ t ∈ ts, 0 ≤ t.1 ∧ 0 ≤ t.2.1) : FnOK c 1 117 [.lst (ts.map dTie)] (.lst ((levelsR ts).map .int)) := by
  refine fn_enter (n := 0) [Str.ofString "ties"] (ho := by rw [hK]; rfl) (hcd := by rw [hK]; rfl) ?_ ?_ ?_ ?_ ?_
  · intro vs h
    rcases vs with _ | ⟨v, _ | _⟩ <;> first | rfl | simp at h
  · rfl
  · decide
  · rfl
  · intro A E env own F₀ s₀ s f S
    simp only [List.zip_cons_cons, List.zip_nil_right] at S
    refine ex_assign_newlist f S (ds := [.int 1]) (by walk_at "ev") (by decide) (fun a => by walk_at "upd") (by walk_at "nm") rfl fun a s1 ha S1 => ?_
    have f1 := f.more (own' := a :: own) fun _ m => List.mem_cons_of_mem _ m
    refine ex_forR (N := 15) (a := 1) (b := 16) (ρ := fun _ => [(Str.ofString "ties", .lst (ts.map dTie)), (Str.ofString "ways", .ptr (.ref a))])
      (ρ' := fun i => [(Str.ofString "ties", .lst (ts.map dTie)), (Str.ofString "ways", .ptr (.ref a)), (Str.ofString "crowd", .int (1 + (i : Int)))])
      (mu := fun i => some (a, .lst ((waysAt ts i).map .int))) (stop := fun _ => False) (dr := fun _ => .none) f1 S1 (by walk_at "ev") (by decide) (by decide) (by decide) (by decide) (by decide) ?_ (by walk_at "nm") ?_ ?_ ?_ (by intro v; rfl)
    · intro i hi; walk_at "upd"
    · intro E i g' F₁ s' hi S'
      refine ex_assign f1 S' (by walk_at "ev") (by walk_at "upd") (by walk_at "nm") rfl fun s2 S2 => ?_
      refine ex_forR (N := i + 1) (a := 1) (b := 1 + (i : Int) + 1) (ρ := fun j => [(Str.ofString "ties", .lst (ts.map dTie)), (Str.ofString "ways", .ptr (.ref a)), (Str.ofString "crowd", .int (1 + (i : Int))), (Str.ofString "found", .int (foundAt ts (waysAt ts i) (1 + (i : Int)) j))])
        (ρ' := fun j => [(Str.ofString "ties", .lst (ts.map dTie)), (Str.ofString "ways", .ptr (.ref a)), (Str.ofString "crowd", .int (1 + (i : Int))), (Str.ofString "found", .int (foundAt ts (waysAt ts i) (1 + (i : Int)) j)), (Str.ofString "lowest", .int (1 + (j : Int)))])
        (mu := fun _ => some (a, .lst ((waysAt ts i).map .int))) (stop := fun _ => False) (dr := fun _ => .none) f1 S2 (by walk_at "ev") (by split <;> omega) (by decide) (by decide) (by omega) (by omega) ?_ (by walk_at "nm") ?_ ?_ ?_ (by intro v; rfl)
      · intro j hj; walk_at "upd"
      · intro E j g' F₁ s' hj S'
        refine ex_if f1 S' (by walk_at "ev") (fun hb s3 S3 => ?_) (fun hb s3 S3 => ex_nil (ex_nil ?_))
        · refine ex_comp (ρc := [(Str.ofString "crowd", .int (1 + (i : Int))), (Str.ofString "lowest", .int (1 + (j : Int)))]) f1 S3 (by walk_at "cap") rfl (by walk_at "ev") (IterV.lstM Quiet.tup) (by walk_at "caps")
            (CompRun.one (items := ts) (emb := dTie) (p := wrongB (1 + (i : Int)) (1 + (j : Int))) (e := fun _ => .int 1)
              (ρ' := fun t => [(Str.ofString "crowd", .int (1 + (i : Int))), (Str.ofString "lowest", .int (1 + (j : Int))), (Str.ofString "low", .int t.1), (Str.ofString "high", .int t.2.1), (Str.ofString "strict", .bool t.2.2)])
              (fun t ht mu => by walk_at "asg") (fun t ht => by walk_at "subl") (fun t ht mu => ?_) (fun t ht _ mu => by walk_at "ev") (by omega)) (by walk_at "upd") rfl rfl rfl fun s4 S4 => ?_
          · have h1 := (hts t ht).1
            have h2 := (hts t ht).2
            unfold wrongB bitI
            walk_at "ev"
          · refine ex_if f1 S4 (Tr.cmp (by walk_at "ev") (by walk_at "ev") (CmpV.eqNil (okOnes _))) (fun hb2 s5 S5 => ?_) (fun hb2 s5 S5 => ex_nil (ex_nil (ex_nil ?_)))
            · refine ex_aug f1 S5 (by walk_at "mem") (Ev.subM (by walk_at "ev") (by walk_at "ev") (by omega) (by omega) (d := .int ((waysAt ts i).getD ((1 + (i : Int)) - (1 + (j : Int))).toNat 0)) (getD_int _ _ (by rw [waysAt_len]; omega))) (by walk_at "ev") (by walk_at "upd") (by walk_at "nm") fun s6 S6 => ex_nil (ex_nil (ex_nil ?_))
              show St _ _ _ _ _ _ _ _ _
              have e : foundAt ts (waysAt ts i) (1 + (i : Int)) (j + 1) = foundAt ts (waysAt ts i) (1 + (i : Int)) j + (waysAt ts i).getD ((1 + (i : Int)) - (1 + (j : Int))).toNat 0 := by
                rw [foundAt, stepF, if_pos]
                rw [hb]; simpa using hb2
              simp only [e]
              exact S6.fewer (by walk_at "subl")
            · show St _ _ _ _ _ _ _ _ _
              have e : foundAt ts (waysAt ts i) (1 + (i : Int)) (j + 1) = foundAt ts (waysAt ts i) (1 + (i : Int)) j := by
                rw [foundAt, stepF, if_neg]
                rw [hb]; simpa using hb2
              simp only [e]
              exact S5.fewer (by walk_at "subl")
        · show St _ _ _ _ _ _ _ _ _
          have e : foundAt ts (waysAt ts i) (1 + (i : Int)) (j + 1) = foundAt ts (waysAt ts i) (1 + (i : Int)) j := by
            rw [foundAt, stepF, if_neg]
            rw [hb]; simp
          simp only [e]
          exact S3.fewer (by walk_at "subl")
      · intro s' S'
        refine ex_append f1 S' (by walk_at "mem") (by walk_at "ev") (by rw [List.length_map, waysAt_len]; omega) rfl rfl rfl (by decide) fun s3 S3 => ex_nil ?_
        show St _ _ _ _ _ _ _ _ _
        have e : (waysAt ts (i + 1)).map D.int = (waysAt ts i).map D.int ++ [.int (100 * foundAt ts (waysAt ts i) (1 + (i : Int)) (i + 1))] := by rw [waysAt, List.map_append]; rfl
        simp only [e]
        exact S3.fewer (by walk_at "subl")
      · intro _ _ _ _ h; exact h.elim
    · intro s' S'
      have S2 : St c s₀ s₀.heap.get? own F₀ env [(Str.ofString "ways", .lst ((waysAt ts 15).map .int))] none s' := S'.freezeL (fun q => ha (q ▸ S.loc)) S.loc ha f.oc (by
        intro x d h
        simp only [List.mem_cons, List.not_mem_nil, or_false, Prod.mk.injEq] at h
        obtain ⟨rfl, rfl⟩ := h
        exact .inr ⟨rfl, by walk_at "mem"⟩)
      have hW : (waysAt ts 15).length = 16 := waysAt_len ts 15
      unfold levelsR
      generalize waysAt ts 15 = W at hW S2 ⊢
      refine ex_ret f S2 (Ev.comp (ρc := [(Str.ofString "ways", .lst ((W).map .int))]) (by walk_at "cap") rfl (by walk_at "ev") (IterV.rngM (N := 5) (by decide)) (by walk_at "caps")
            (CompRun.one (items := List.range 5) (emb := fun i : Nat => D.int (i : Int)) (p := fun _ => true) (e := fun j => .int ((((W).getD 15 0).fdiv (100 ^ j)).fmod 100))
              (ρ' := fun j => [(Str.ofString "ways", .lst ((W).map .int)), (Str.ofString "j", .int (j : Int))])
              (fun t ht mu => by walk_at "asg") (fun t ht => by walk_at "subl") (fun t ht mu => by walk_at "ev") (fun t ht _ mu => ?_) (by simp))) fun v s' S' r => ⟨v, rfl, S'.fewer (fun _ h => nomatch h), ?_⟩
      · have h5 : t < 5 := by simpa using ht
        refine Ev.bin (Ev.bin (Ev.sub (by walk_at "ev") (by walk_at "ev") (SubV.lst (by decide) (by decide) (d := .int ((W).getD 15 0)) (getD_int W 15 (by omega)))) (Ev.bin (by walk_at "ev") (by walk_at "ev") (BinV.pow (by omega) (by omega) (by decide))) (BinV.fdiv ?_ ?_)) (by walk_at "ev") (by walk_at "ev")
        · have : t = 0 ∨ t = 1 ∨ t = 2 ∨ t = 3 ∨ t = 4 := by omega
          rcases this with rfl | rfl | rfl | rfl | rfl <;> decide
        · have : t = 0 ∨ t = 1 ∨ t = 2 ∨ t = 3 ∨ t = 4 := by omega
          rcases this with rfl | rfl | rfl | rfl | rfl <;> decide
      · have e : (List.filter (fun _ : Nat => true) (List.range 5)) = List.range 5 := rfl
        rw [e] at r
        rw [List.map_map]
        exact r
    · intro _ _ _ _ h; exact h.elim
end
noncomputable def copyAt (kvs : List (Int × Int)) : Nat → List (Int × Int)
  | 0 => []
  | i + 1 => storedI (copyAt kvs i) (kvs.getD i (0, 0)).1 (kvs.getD i (0, 0)).2
noncomputable def addOne (acc : List (Int × Int)) (k v : Int) : List (Int × Int) := if (lookI acc k).isSome then storedI acc k ((lookI acc k).getD 0 + v) else storedI acc k v
noncomputable def addAt (kvs kvs2 : List (Int × Int)) : Nat → List (Int × Int)
  | 0 => copyAt kvs kvs.length
  | i + 1 => addOne (addAt kvs kvs2 i) (kvs2.getD i (0, 0)).1 (kvs2.getD i (0, 0)).2
theorem copyAt_len (kvs : List (Int × Int)) : ∀ i, (copyAt kvs i).length ≤ i
  | 0 => Nat.le_refl _
  | i + 1 => Nat.le_trans (storedI_len _ _ _) (Nat.succ_le_succ (copyAt_len kvs i))
theorem addAt_len (kvs kvs2 : List (Int × Int)) : ∀ i, (addAt kvs kvs2 i).length ≤ kvs.length + i
  | 0 => copyAt_len _ _
  | i + 1 => by
    have h := addAt_len kvs kvs2 i
    rw [addAt, addOne]
    split <;> (refine Nat.le_trans (storedI_len _ _ _) ?_; omega)
section
variable {c : Cx} (hK : c.K = HK c.w.params)
include hK
theorem ok_add {kvs kvs2 : List (Int × Int)} (h1 : kvs.length ≤ 400) (h2 : kvs2.length ≤ 400) : FnOK c 1 21 [.dct kvs, .dct kvs2] (.dct (addAt kvs kvs2 kvs2.length)) := by
  refine fn_enter (n := 0) [Str.ofString "target", Str.ofString "source"] (ho := by rw [hK]; rfl) (hcd := by rw [hK]; rfl) ?_ ?_ ?_ ?_ ?_
  · intro vs h
    rcases vs with _ | ⟨v, _ | ⟨u, _ | _⟩⟩ <;> first | rfl | simp at h
  · rfl
  · decide
  · rfl
  · intro A E env own F₀ s₀ s f S
    simp only [List.zip_cons_cons, List.zip_nil_right] at S
    refine ex_assign_newdict f S ⟨91, _, by decide, by rw [hK]; rfl⟩ (fun a => by walk_at "upd") (by walk_at "nm") rfl fun a s1 ha S1 => ?_
    have f1 := f.more (own' := a :: own) fun _ m => List.mem_cons_of_mem _ m
    refine ex_forP (kvs := kvs) (ρ := fun _ => [(Str.ofString "target", .dct kvs), (Str.ofString "source", .dct kvs2), (Str.ofString "new_callers", .ptr (.ref a))])
      (ρ' := fun i => [(Str.ofString "target", .dct kvs), (Str.ofString "source", .dct kvs2), (Str.ofString "new_callers", .ptr (.ref a)), (Str.ofString "func", .int (kvs.getD i (0, 0)).1), (Str.ofString "caller", .int (kvs.getD i (0, 0)).2)])
      (mu := fun i => some (a, .dct (copyAt kvs i))) (stop := fun _ => False) (dr := fun _ => .none) f1 S1 (by walk_at "ev") ?_ ?_ ?_ ?_ (by intro v; rfl)
    · intro i k v hkv
      have e : kvs.getD i (0, 0) = (k, v) := by simp [List.getD, hkv]
      rw [e]; walk_at "asgl"
    · intro E i k v g' F₁ s' hkv S'
      have hi : i < kvs.length := (List.getElem?_eq_some_iff.mp hkv).1
      refine ex_setitem f1 S' (by walk_at "mem") (by have := copyAt_len kvs i; omega) (by walk_at "ev") (by walk_at "ev") (by decide) rfl fun s2 S2 => ex_nil ?_
      exact S2.fewer (by walk_at "subl")
    · intro s2 S2
      refine ex_forP (kvs := kvs2) (ρ := fun _ => [(Str.ofString "target", .dct kvs), (Str.ofString "source", .dct kvs2), (Str.ofString "new_callers", .ptr (.ref a))])
        (ρ' := fun i => [(Str.ofString "target", .dct kvs), (Str.ofString "source", .dct kvs2), (Str.ofString "new_callers", .ptr (.ref a)), (Str.ofString "func", .int (kvs2.getD i (0, 0)).1), (Str.ofString "caller", .int (kvs2.getD i (0, 0)).2)])
        (mu := fun i => some (a, .dct (addAt kvs kvs2 i))) (stop := fun _ => False) (dr := fun _ => .none) f1 S2 (by walk_at "ev") ?_ ?_ ?_ ?_ (by intro v; rfl)
      · intro i k v hkv
        have e : kvs2.getD i (0, 0) = (k, v) := by simp [List.getD, hkv]
        rw [e]; walk_at "asgl"
      · intro E i k v g' F₁ s' hkv S'
        have hi : i < kvs2.length := (List.getElem?_eq_some_iff.mp hkv).1
        have hl := addAt_len kvs kvs2 i
        refine ex_if f1 S' (Tr.inM (by walk_at "ev") (by walk_at "mem")) (fun hb s3 S3 => ?_) (fun hb s3 S3 => ?_)
        · refine ex_if (b := false) f1 S3 (Tr.plain (d := .bool false) (Ev.bltc (b := .builtin "isinstance") (ds := [.int (kvs2.getD i (0, 0)).2, .ptr (.type "tuple")]) (Ev.gB hK rfl rfl rfl) (by walk_at "ev") CallV.isiI (.inl ⟨_, rfl⟩) (by simp)) TruV.bool) (fun hb2 => nomatch hb2) (fun _ s4 S4 => ?_)
          obtain ⟨v0, hv0⟩ := Option.isSome_iff_exists.mp hb
          refine ex_augitem f1 S4 (by walk_at "mem") (by omega) (by walk_at "ev") hv0 (by walk_at "ev") (by decide) (by intro _ _ _; rfl) fun s5 S5 => ex_nil (ex_nil (ex_nil ?_))
          show St _ _ _ _ _ _ _ _ _
          have e : addAt kvs kvs2 (i + 1) = storedI (addAt kvs kvs2 i) (kvs2.getD i (0, 0)).1 (v0 + (kvs2.getD i (0, 0)).2) := by
            rw [addAt, addOne, if_pos hb, hv0]; rfl
          simp only [e]
          exact S5.fewer (by walk_at "subl")
        · refine ex_setitem f1 S3 (by walk_at "mem") (by omega) (by walk_at "ev") (by walk_at "ev") (by decide) rfl fun s5 S5 => ex_nil (ex_nil ?_)
          show St _ _ _ _ _ _ _ _ _
          have e : addAt kvs kvs2 (i + 1) = storedI (addAt kvs kvs2 i) (kvs2.getD i (0, 0)).1 (kvs2.getD i (0, 0)).2 := by
            rw [addAt, addOne, if_neg]
            rw [hb]; simp
          simp only [e]
          exact S5.fewer (by walk_at "subl")
      · intro s3 S3
        have S4 : St c s₀ s₀.heap.get? own F₀ env [(Str.ofString "new_callers", .dct (addAt kvs kvs2 kvs2.length))] none s3 := S3.freezeD S.loc ha f.oc (by
          intro x d h
          simp only [List.mem_cons, List.not_mem_nil, or_false, Prod.mk.injEq] at h
          obtain ⟨rfl, rfl⟩ := h
          exact .inr ⟨rfl, by walk_at "mem"⟩)
        exact ex_ret f S4 (by walk_at "ev") fun v s' S' r => ⟨v, rfl, S'.fewer (fun _ h => nomatch h), r⟩
      · intro _ _ _ _ h; exact h.elim
    · intro _ _ _ _ h; exact h.elim

noncomputable def sumAt (kvs : List (Int × Int)) : Nat → Int
  | 0 => 0
  | i + 1 => sumAt kvs i + (kvs.getD i (0, 0)).2
theorem ok_count {kvs : List (Int × Int)} : FnOK c 1 28 [.dct kvs] (.int (sumAt kvs kvs.length)) := by
  refine fn_enter (n := 0) [Str.ofString "callers"] (ho := by rw [hK]; rfl) (hcd := by rw [hK]; rfl) ?_ ?_ ?_ ?_ ?_
  · intro vs h
    rcases vs with _ | ⟨v, _ | _⟩ <;> first | rfl | simp at h
  · rfl
  · decide
  · rfl
  · intro A E env own F₀ s₀ s f S
    simp only [List.zip_cons_cons, List.zip_nil_right] at S
    refine ex_assign f S (by walk_at "ev") (by walk_at "upd") (by walk_at "nm") rfl fun s1 S1 => ?_
    refine ex_forV (kvs := kvs) (ρ := fun i => [(Str.ofString "callers", .dct kvs), (Str.ofString "nc", .int (sumAt kvs i))])
      (ρ' := fun i => [(Str.ofString "callers", .dct kvs), (Str.ofString "nc", .int (sumAt kvs i)), (Str.ofString "calls", .int (kvs.getD i (0, 0)).2)])
      (mu := fun _ => none) (stop := fun _ => False) (dr := fun _ => .none) f S1 (by walk_at "ev") ?_ (by walk_at "nm") ?_ ?_ ?_ (by intro v; rfl)
    · intro i k v hkv
      have e : kvs.getD i (0, 0) = (k, v) := by simp [List.getD, hkv]
      rw [e]; walk_at "upd"
    · intro E i k v g' F₁ s' hkv S'
      refine ex_aug f S' (by walk_at "mem") (by walk_at "ev") (by walk_at "ev") (by walk_at "upd") (by walk_at "nm") fun s2 S2 => ex_nil ?_
      exact S2.fewer (by walk_at "subl")
    · intro s2 S2
      exact ex_ret f S2 (by walk_at "ev") fun v s' S' r => ⟨v, rfl, S'.fewer (fun _ h => nomatch h), r⟩
    · intro _ _ _ _ h; exact h.elim
end
noncomputable def sixth : UInt64 := Float64.ofFrac (decide ((1 : Int) < 0) != decide ((6 : Int) < 0)) (1 : Int).natAbs (6 : Int).natAbs
noncomputable def hueAt (H : List (List UInt64)) (r : List Int) (t : Tie) : UInt64 := (H.getD (r.getD t.1.toNat 0).toNat []).getD (r.getD t.2.1.toNat 0).toNat 0
noncomputable def badHue (st : Bool) (h : UInt64) : Bool := (Float64.cmp h sixth == some Ordering.eq) || (st && (Float64.cmp h sixth == some Ordering.lt))
noncomputable def badTie (H : List (List UInt64)) (r : List Int) (t : Tie) : Bool := ((if t.2.1 > t.1 then t.2.1 else t.1) == (r.length : Int) - 1) && badHue t.2.2 (hueAt H r t)
noncomputable abbrev dHues (H : List (List UInt64)) : D := .lst (H.map fun r => .lst (r.map .flt))
theorem getD_flt (l : List UInt64) (i : Nat) (h : i < l.length) : (l.map D.flt)[i]? = some (.flt (l.getD i 0)) := by simp [List.getD, h]
theorem getD_row (H : List (List UInt64)) (i : Nat) (h : i < H.length) : (H.map fun r => D.lst (r.map .flt))[i]? = some (.lst ((H.getD i []).map .flt)) := by simp [List.getD, h]
section
variable {c : Cx} (hK : c.K = HK c.w.params)
include hK
theorem ok_shows {ts : List Tie} {H : List (List UInt64)} {r : List Int} (hts : ∀ t ∈ ts, 0 ≤ t.1 ∧ 0 ≤ t.2.1) (hH : H.length = 3) (hH2 : ∀ l ∈ H, l.length = 3) (hr : r.length ≤ 4) (hr2 : ∀ x ∈ r, 0 ≤ x ∧ x < 3) :
    FnOK c 1 124 [.lst (ts.map dTie), dHues H, .lst (r.map .int)] (.bool (!ts.any (badTie H r))) := by
  refine fn_enter (n := 0) [Str.ofString "ties", Str.ofString "hues", Str.ofString "row"] (ho := by rw [hK]; rfl) (hcd := by rw [hK]; rfl) ?_ ?_ ?_ ?_ ?_
  · intro vs h
    rcases vs with _ | ⟨v, _ | ⟨u, _ | ⟨w, _ | _⟩⟩⟩ <;> first | rfl | simp at h
  · rfl
  · decide
  · rfl
  · intro A E env own F₀ s₀ s f S
    simp only [List.zip_cons_cons, List.zip_nil_right] at S
    have S1 := S.fact (x := Str.ofString "ties") (d := .lst (ts.map dTie)) (p := (ts.take 0).any (badTie H r) = false) (by walk_at "mem") (by simp)
    refine ex_forL (items := ts) (emb := dTie) (ρ := fun i => [(Str.ofString "ties", .lst (ts.map dTie)), (Str.ofString "hues", dHues H), (Str.ofString "row", .lst (r.map .int)), (Str.ofString "ties", .fact ((ts.take i).any (badTie H r) = false))])
      (ρ' := fun i => [(Str.ofString "ties", .lst (ts.map dTie)), (Str.ofString "hues", dHues H), (Str.ofString "row", .lst (r.map .int)), (Str.ofString "ties", .fact ((ts.take i).any (badTie H r) = false)), (Str.ofString "low", .int (ts.getD i (0, 0, false)).1), (Str.ofString "high", .int (ts.getD i (0, 0, false)).2.1), (Str.ofString "strict", .bool (ts.getD i (0, 0, false)).2.2)])
      (mu := fun _ => none) (stop := fun i => badTie H r (ts.getD i (0, 0, false)) = true ∧ i < ts.length) (dr := fun _ => .bool false) f S1 (by walk_at "ev") Quiet.tup ?_ ?_ ?_ ?_ (by intro v; rfl)
    · intro i t ht
      have e : ts.getD i (0, 0, false) = t := by simp [List.getD, ht]
      rw [e]; walk_at "asg"
    · intro E i t g' F₁ s' ht S'
      have hi : i < ts.length := (List.getElem?_eq_some_iff.mp ht).1
      have e : ts.getD i (0, 0, false) = t := by simp [List.getD, ht]
      have hm : t ∈ ts := List.mem_of_getElem? ht
      have htk : (ts.take (i + 1)).any (badTie H r) = ((ts.take i).any (badTie H r) || badTie H r t) := by
        rw [List.take_add_one, ht, List.any_append]; simp
      have h0 : (ts.take i).any (badTie H r) = false := S'.told (by walk_at "mem")
      rw [e] at S' ⊢
      obtain ⟨t1, t2, t3⟩ := t
      obtain ⟨hl, hh⟩ := hts _ hm
      simp only at hl hh S' ⊢
      have done : ∀ s'', badTie H r (t1, t2, t3) = false → St c s₀ g' own F₁ env [(Str.ofString "ties", .lst (ts.map dTie)), (Str.ofString "hues", dHues H), (Str.ofString "row", .lst (r.map .int))] none s'' →
          LoopPost c s₀ g' own F₁ env [(Str.ofString "ties", .lst (ts.map dTie)), (Str.ofString "hues", dHues H), (Str.ofString "row", .lst (r.map .int)), (Str.ofString "ties", .fact ((ts.take (i + 1)).any (badTie H r) = false))] none (badTie H r (t1, t2, t3) = true ∧ i < ts.length) (.bool false) .next s'' := fun s'' hb S'' =>
        S''.fact (x := Str.ofString "ties") (d := .lst (ts.map dTie)) (by walk_at "mem") (by rw [htk, h0, hb]; rfl)
      refine ex_if f S' (by walk_at "ev") (fun hb s2 S2 => ?_) (fun hb s2 S2 => ex_nil (ex_nil (done _ ?_ (S2.fewer (by walk_at "subl")))))
      · have hq : (if t2 > t1 then t2 else t1) = (r.length : Int) - 1 := by simpa using hb
        have hl1 : t1.toNat < r.length := by split at hq <;> omega
        have hl2 : t2.toNat < r.length := by split at hq <;> omega
        have g1 : 0 ≤ r.getD t1.toNat 0 ∧ r.getD t1.toNat 0 < 3 := by
          have : r.getD t1.toNat 0 = r[t1.toNat] := by simp [List.getD, hl1]
          rw [this]; exact hr2 _ (List.getElem_mem hl1)
        have g2 : 0 ≤ r.getD t2.toNat 0 ∧ r.getD t2.toNat 0 < 3 := by
          have : r.getD t2.toNat 0 = r[t2.toNat] := by simp [List.getD, hl2]
          rw [this]; exact hr2 _ (List.getElem_mem hl2)
        have hrow : (H.getD (r.getD t1.toNat 0).toNat []).length = 3 := by
          have hlt : (r.getD t1.toNat 0).toNat < H.length := by omega
          have : H.getD (r.getD t1.toNat 0).toNat [] = H[(r.getD t1.toNat 0).toNat] := by rw [List.getD_eq_getElem?_getD (l := H), List.getElem?_eq_getElem hlt]; rfl
          rw [this]; exact hH2 _ (List.getElem_mem hlt)
        refine ex_assign f S2 (Ev.sub (Ev.sub (by walk_at "ev") (Ev.sub (by walk_at "ev") (by walk_at "ev") (SubV.lst hl (by omega) (getD_int r _ hl1))) (SubV.lst g1.1 (by omega) (getD_row H _ (by omega)))) (Ev.sub (by walk_at "ev") (by walk_at "ev") (SubV.lst hh (by omega) (getD_int r _ hl2))) (SubV.lst g2.1 (by omega) (getD_flt _ _ (by omega)))) (by walk_at "upd") (by walk_at "nm") rfl fun s3 S3 => ?_
        refine ex_if f S3 (by walk_at "ev") (fun hb2 s4 S4 => ?_) (fun hb2 s4 S4 => ex_nil (ex_nil (ex_nil (done _ ?_ (S4.fewer (by walk_at "subl"))))))
        · refine ex_ret f S4 (by walk_at "ev") fun v s5 S5 rv => ⟨⟨?_, hi⟩, S5.fewer (fun _ h => nomatch h), rv⟩
          have hbh : badHue t3 (hueAt H r (t1, t2, t3)) = true := hb2
          simp only [badTie, hbh, Bool.and_true]
          simpa using hb
        · have hbh : badHue t3 (hueAt H r (t1, t2, t3)) = false := hb2
          simp only [badTie, hbh, Bool.and_false]
      · have hb' : ((if t2 > t1 then t2 else t1) == (r.length : Int) - 1) = false := by simpa using hb
        simp only [badTie, hb', Bool.false_and]
    · intro s2 S2
      have h0 : (ts.take ts.length).any (badTie H r) = false := S2.told (by walk_at "mem")
      rw [List.take_length] at h0
      rw [h0]
      exact ex_ret f S2 (by walk_at "ev") fun v s' S' r => ⟨v, rfl, S'.fewer (fun _ h => nomatch h), r⟩
    · intro i v s2 hi hst S2 rv
      have : ts.any (badTie H r) = true := List.any_eq_true.mpr ⟨ts[i], List.getElem_mem hi, by have := hst.1; simpa [List.getD, hi] using this⟩
      rw [this]
      exact ⟨v, rfl, S2, rv⟩
end
noncomputable def feq (a b : UInt64) : Bool := Float64.cmp a b == some Ordering.eq
noncomputable def fle (a b : UInt64) : Bool := Float64.cmp a b == some Ordering.lt || Float64.cmp a b == some Ordering.eq
noncomputable def f2 : UInt64 := 4611686018427387904
noncomputable def fHalf : UInt64 := 4602678819172646912
noncomputable def f4 : UInt64 := 4616189618054758400
noncomputable def f6 : UInt64 := 4618441417868443648
noncomputable def f1 : UInt64 := 4607182418800017408
noncomputable def mxc (r g b : UInt64) : UInt64 := best3 fgt r g b
noncomputable def mnc (r g b : UInt64) : UInt64 := best3 fltB r g b
noncomputable def smc (r g b : UInt64) : UInt64 := Float64.add (mxc r g b) (mnc r g b)
noncomputable def rgc (r g b : UInt64) : UInt64 := Float64.sub (mxc r g b) (mnc r g b)
noncomputable def lgt (r g b : UInt64) : UInt64 := Float64.div (smc r g b) f2
noncomputable def cc (r g b x : UInt64) : UInt64 := Float64.div (Float64.sub (mxc r g b) x) (rgc r g b)
noncomputable def sat (r g b : UInt64) : UInt64 := if fle (lgt r g b) fHalf then Float64.div (rgc r g b) (smc r g b) else Float64.div (rgc r g b) (Float64.sub (Float64.sub f2 (mxc r g b)) (mnc r g b))
noncomputable def h0c (r g b : UInt64) : UInt64 := if feq r (mxc r g b) then Float64.sub (cc r g b b) (cc r g b g) else if feq g (mxc r g b) then Float64.sub (Float64.add f2 (cc r g b r)) (cc r g b b) else Float64.sub (Float64.add f4 (cc r g b g)) (cc r g b r)
noncomputable def hls3 (r g b : UInt64) : UInt64 × UInt64 × UInt64 := if feq (mnc r g b) (mxc r g b) then (0, lgt r g b, 0) else ((Float64.divmod (Float64.div (h0c r g b) f6) f1).snd, lgt r g b, sat r g b)
noncomputable def okH (r g b : UInt64) : Bool := feq (mnc r g b) (mxc r g b) || (!Float64.isZero (rgc r g b) && (if fle (lgt r g b) fHalf then !Float64.isZero (smc r g b) else !Float64.isZero (Float64.sub (Float64.sub f2 (mxc r g b)) (mnc r g b))))
section
variable {c : Cx} (hK : c.K = HK c.w.params)
include hK
theorem ok_hls {r g b : UInt64} (hok : okH r g b = true) : FnOK c 1 35 [.flt r, .flt g, .flt b] (.tup [.flt (hls3 r g b).1, .flt (hls3 r g b).2.1, .flt (hls3 r g b).2.2]) := by
  refine fn_enter (n := 0) [Str.ofString "r", Str.ofString "g", Str.ofString "b"] (ho := by rw [hK]; rfl) (hcd := by rw [hK]; rfl) ?_ ?_ ?_ ?_ ?_
  · intro vs h
    rcases vs with _ | ⟨v, _ | ⟨u, _ | ⟨w, _ | _⟩⟩⟩ <;> first | rfl | simp at h
  · rfl
  · decide
  · rfl
  · intro A E env own F₀ s₀ s f S
    simp only [List.zip_cons_cons, List.zip_nil_right] at S
    refine ex_assign (d := .flt (mxc r g b)) f S (by walk_at "ev") (by walk_at "upd") (by walk_at "nm") rfl fun s1 S => ?_
    refine ex_assign (d := .flt (mnc r g b)) f S (by walk_at "ev") (by walk_at "upd") (by walk_at "nm") rfl fun s1 S => ?_
    refine ex_assign (d := .flt (smc r g b)) f S (by walk_at "ev") (by walk_at "upd") (by walk_at "nm") rfl fun s1 S => ?_
    refine ex_assign (d := .flt (rgc r g b)) f S (by walk_at "ev") (by walk_at "upd") (by walk_at "nm") rfl fun s1 S => ?_
    have h2 : ¬ Float64.isZero f2 = true := by decide +kernel
    refine ex_assign (d := .flt (lgt r g b)) f S (Ev.bin (by walk_at "ev") (by walk_at "ev") (BinV.fdivF (b := f2) h2)) (by walk_at "upd") (by walk_at "nm") rfl fun s1 S => ?_
    have hE : hls3 r g b = if feq (mnc r g b) (mxc r g b) then (0, lgt r g b, 0) else ((Float64.divmod (Float64.div (h0c r g b) f6) f1).snd, lgt r g b, sat r g b) := rfl
    generalize hm : hls3 r g b = R at hE ⊢
    refine ex_if (b := feq (mnc r g b) (mxc r g b)) f S (by walk_at "ev") (fun hb s2 S => ?_) (fun hb s2 S => ex_nil ?_)
    · rw [if_pos hb] at hE
      subst hE
      exact ex_ret f S (by walk_at "ev") fun v s' S' r => ⟨v, rfl, S'.fewer (fun _ h => nomatch h), r⟩
    rw [if_neg (by rw [hb]; simp)] at hE
    subst hE
    rw [okH, hb, Bool.false_or, Bool.and_eq_true] at hok
    obtain ⟨hz, hz2⟩ := hok
    have hz' : ¬ Float64.isZero (rgc r g b) = true := by simpa using hz
    refine ex_ifj (b := fle (lgt r g b) fHalf) (mu' := none) (ρ' := [(Str.ofString "r", .flt r), (Str.ofString "g", .flt g), (Str.ofString "b", .flt b), (Str.ofString "maxc", .flt (mxc r g b)), (Str.ofString "minc", .flt (mnc r g b)), (Str.ofString "sumc", .flt (smc r g b)), (Str.ofString "rangec", .flt (rgc r g b)), (Str.ofString "l", .flt (lgt r g b)), (Str.ofString "s", .flt (sat r g b))]) f S (by walk_at "ev") (fun hb s2 S => ?_) (fun hb s2 S => ?_) fun s2 S => ?_
    · rw [if_pos hb] at hz2
      have hz3 : ¬ Float64.isZero (smc r g b) = true := by simpa using hz2
      have e : sat r g b = Float64.div (rgc r g b) (smc r g b) := by rw [sat, if_pos hb]
      rw [e]
      exact ex_assign f S (Ev.bin (by walk_at "ev") (by walk_at "ev") (BinV.fdivF hz3)) (by walk_at "upd") (by walk_at "nm") rfl fun s1 S => ex_nil ⟨rfl, S⟩
    · rw [if_neg (by rw [hb]; simp)] at hz2
      have hz3 : ¬ Float64.isZero (Float64.sub (Float64.sub f2 (mxc r g b)) (mnc r g b)) = true := by simpa using hz2
      have e : sat r g b = Float64.div (rgc r g b) (Float64.sub (Float64.sub f2 (mxc r g b)) (mnc r g b)) := by rw [sat, if_neg (by rw [hb]; simp)]
      rw [e]
      exact ex_assign f S (Ev.bin (by walk_at "ev") (by walk_at "ev") (BinV.fdivF hz3)) (by walk_at "upd") (by walk_at "nm") rfl fun s1 S => ex_nil ⟨rfl, S⟩
    refine ex_assign (d := .flt (cc r g b r)) f S (Ev.bin (by walk_at "ev") (by walk_at "ev") (BinV.fdivF hz')) (by walk_at "upd") (by walk_at "nm") rfl fun s1 S => ?_
    refine ex_assign (d := .flt (cc r g b g)) f S (Ev.bin (by walk_at "ev") (by walk_at "ev") (BinV.fdivF hz')) (by walk_at "upd") (by walk_at "nm") rfl fun s1 S => ?_
    refine ex_assign (d := .flt (cc r g b b)) f S (Ev.bin (by walk_at "ev") (by walk_at "ev") (BinV.fdivF hz')) (by walk_at "upd") (by walk_at "nm") rfl fun s1 S => ?_
    refine ex_ifj (b := feq r (mxc r g b)) (mu' := none) (ρ' := [(Str.ofString "r", .flt r), (Str.ofString "g", .flt g), (Str.ofString "b", .flt b), (Str.ofString "maxc", .flt (mxc r g b)), (Str.ofString "minc", .flt (mnc r g b)), (Str.ofString "sumc", .flt (smc r g b)), (Str.ofString "rangec", .flt (rgc r g b)), (Str.ofString "l", .flt (lgt r g b)), (Str.ofString "s", .flt (sat r g b)), (Str.ofString "rc", .flt (cc r g b r)), (Str.ofString "gc", .flt (cc r g b g)), (Str.ofString "bc", .flt (cc r g b b)), (Str.ofString "h", .flt (h0c r g b))]) f S (by walk_at "ev") (fun hb s2 S => ?_) (fun hb s2 S => ?_) fun s2 S => ?_
    · have e : h0c r g b = Float64.sub (cc r g b b) (cc r g b g) := by rw [h0c, if_pos hb]
      rw [e]
      exact ex_assign f S (by walk_at "ev") (by walk_at "upd") (by walk_at "nm") rfl fun s1 S => ex_nil ⟨rfl, S⟩
    · refine ex_if (b := feq g (mxc r g b)) f S (by walk_at "ev") (fun hb2 s2 S => ?_) (fun hb2 s2 S => ?_)
      · have e : h0c r g b = Float64.sub (Float64.add f2 (cc r g b r)) (cc r g b b) := by rw [h0c, if_neg (by rw [hb]; simp), if_pos hb2]
        rw [e]
        exact ex_assign f S (by walk_at "ev") (by walk_at "upd") (by walk_at "nm") rfl fun s1 S => ex_nil (ex_nil ⟨rfl, S⟩)
      · have e : h0c r g b = Float64.sub (Float64.add f4 (cc r g b g)) (cc r g b r) := by rw [h0c, if_neg (by rw [hb]; simp), if_neg (by rw [hb2]; simp)]
        rw [e]
        exact ex_assign f S (by walk_at "ev") (by walk_at "upd") (by walk_at "nm") rfl fun s1 S => ex_nil (ex_nil ⟨rfl, S⟩)
    have h6 : ¬ Float64.isZero f6 = true := by decide +kernel
    have h1 : ¬ Float64.isZero f1 = true := by decide +kernel
    refine ex_assign (d := .flt (Float64.divmod (Float64.div (h0c r g b) f6) f1).snd) f S (Ev.bin (Ev.bin (by walk_at "ev") (by walk_at "ev") (BinV.fdivF (b := f6) h6)) (by walk_at "ev") (BinV.fmodF (b := f1) h1)) (by walk_at "upd") (by walk_at "nm") rfl fun s1 S => ?_
    exact ex_ret f S (by walk_at "ev") fun v s' S' r => ⟨v, rfl, S'.fewer (fun _ h => nomatch h), r⟩
end
noncomputable def lightsF : List UInt64 := [4598175219545276416, 4602678819172646912, 4604930618986332160]
noncomputable def huesF : List (List UInt64) := lightsF.map fun red => lightsF.map fun green => (hls3 red green 0).1
noncomputable def shows (ts : List Tie) (r : List Int) : Bool := !ts.any (badTie huesF r)
noncomputable def light3 : List Int := [0, 1, 2]
noncomputable def paintAt (ts : List Tie) : Nat → List (List Int)
  | 0 => [[]]
  | i + 1 => (paintAt ts i).flatMap fun row => (light3.filter fun l => shows ts (row ++ [l])).map fun l => row ++ [l]
theorem mem_paint (ts : List Tie) : ∀ i, ∀ r ∈ paintAt ts i, r.length = i ∧ ∀ x ∈ r, 0 ≤ x ∧ x < 3
  | 0, r, h => by
    have : r = [] := by simpa [paintAt] using h
    subst this
    exact ⟨rfl, fun _ h => nomatch h⟩
  | i + 1, r, h => by
    rw [paintAt] at h
    simp only [List.mem_flatMap, List.mem_map, List.mem_filter] at h
    obtain ⟨row, hr, l, ⟨hl, _⟩, rfl⟩ := h
    obtain ⟨h1, h2⟩ := mem_paint ts i row hr
    refine ⟨by simp [h1], fun x hx => ?_⟩
    rcases List.mem_append.mp hx with hx | hx
    · exact h2 x hx
    · rw [List.mem_singleton.mp hx]
      simp only [light3, List.mem_cons, List.not_mem_nil, or_false] at hl
      omega
theorem flat_len {α β : Type} (f : α → List β) (k : Nat) : ∀ (l : List α), (∀ a ∈ l, (f a).length ≤ k) → (l.flatMap f).length ≤ l.length * k
  | [], _ => by simp
  | a :: l, h => by
    rw [List.flatMap_cons, List.length_append, List.length_cons, Nat.succ_mul, Nat.add_comm]
    exact Nat.add_le_add (flat_len f k l fun a m => h a (.tail _ m)) (h a (.head _))
theorem paint_step (ts : List Tie) (row : List Int) : ((light3.filter fun l => shows ts (row ++ [l])).map fun l => row ++ [l]).length ≤ 3 := by
  rw [List.length_map]
  exact Nat.le_trans (List.length_filter_le _ _) (Nat.le_refl _)
theorem paint_len (ts : List Tie) : ∀ i, (paintAt ts i).length ≤ 3 ^ i
  | 0 => Nat.le_refl _
  | i + 1 => by
    rw [paintAt, Nat.pow_succ]
    exact Nat.le_trans (flat_len _ 3 _ fun row _ => paint_step ts row) (Nat.mul_le_mul_right _ (paint_len ts i))
theorem lights_ok : ∀ red ∈ lightsF, ∀ green ∈ lightsF, okH red green 0 = true := by decide +kernel
theorem hues_len : huesF.length = 3 := rfl
theorem hues_len2 : ∀ l ∈ huesF, l.length = 3 := by
  intro l h
  simp only [huesF, List.mem_map] at h
  obtain ⟨_, _, rfl⟩ := h
  rfl
section
variable {c : Cx} (hK : c.K = HK c.w.params)
include hK
theorem ok_paintings {ts : List Tie} (hz : ts.length ≤ 5) (hts : ∀ t ∈ ts, 0 ≤ t.1 ∧ 0 ≤ t.2.1) : FnOK c 2 129 [.lst (ts.map dTie)] (.lst ((paintAt ts 4).map fun r => .lst (r.map .int))) := by
  refine fn_enter (n := 1) [Str.ofString "ties"] (ho := by rw [hK]; rfl) (hcd := by rw [hK]; rfl) ?_ ?_ ?_ ?_ ?_
  · intro vs h
    rcases vs with _ | ⟨v, _ | _⟩ <;> first | rfl | simp at h
  · rfl
  · decide
  · rfl
  · intro A E env own F₀ s₀ s f S
    simp only [List.zip_cons_cons, List.zip_nil_right] at S
    refine ex_assign (d := .lst (lightsF.map .flt)) f S (by walk_at "ev") (by walk_at "upd") (by walk_at "nm") rfl fun s1 S => ?_
    refine ex_assign (d := dHues huesF) f S (Ev.to (Ev.comp (ρc := [(Str.ofString "lights", .lst (lightsF.map .flt))]) (by walk_at "cap") rfl (by walk_at "ev") (IterV.lstM Quiet.name) (by walk_at "caps")
            (CompRun.one (items := lightsF) (emb := D.flt) (p := fun _ => true) (e := fun red => .lst ((lightsF.map fun green => (hls3 red green 0).1).map .flt))
              (ρ' := fun red => [(Str.ofString "lights", .lst (lightsF.map .flt)), (Str.ofString "red", .flt red)])
              (fun t ht mu => by walk_at "asg") (fun t ht => by walk_at "subl") (fun t ht mu => by walk_at "ev") (fun red hred _ mu => ?_) (by decide))) ?_) (by walk_at "upd") (by walk_at "nm") ?_ fun s1 S => ?_
    · refine Ev.to (Ev.comp (ρc := [(Str.ofString "red", .flt red)]) (by walk_at "cap") rfl (by walk_at "ev") (IterV.lstM Quiet.name) (by walk_at "caps")
            (CompRun.one (items := lightsF) (emb := D.flt) (p := fun _ => true) (e := fun green => .flt (hls3 red green 0).1)
              (ρ' := fun green => [(Str.ofString "red", .flt red), (Str.ofString "green", .flt green)])
              (fun t ht mu => by walk_at "asg") (fun t ht => by walk_at "subl") (fun t ht mu => by walk_at "ev") (fun green hg _ mu => ?_) (by decide))) rfl
      exact Ev.sub (Ev.call (by walk_at "ev") (by rw [hK]; rfl) (by walk_at "ev") (ok_hls hK (lights_ok red hred green hg)) (by decide)) (by walk_at "ev") (SubV.tup (by decide) (by decide) rfl)
    · rfl
    · exact swap_cell f rfl
    refine ex_assign (d := .lst ((paintAt ts 0).map fun r => .lst (r.map .int))) f S (by walk_at "ev") (by walk_at "upd") (by walk_at "nm") rfl fun s1 S => ?_
    refine ex_forR (N := 4) (a := 0) (b := 4) (ρ := fun i => [(Str.ofString "ties", .lst (ts.map dTie)), (Str.ofString "lights", .lst (lightsF.map .flt)), (Str.ofString "hues", dHues huesF), (Str.ofString "rows", .lst ((paintAt ts i).map fun r => .lst (r.map .int)))])
      (ρ' := fun i => [(Str.ofString "ties", .lst (ts.map dTie)), (Str.ofString "lights", .lst (lightsF.map .flt)), (Str.ofString "hues", dHues huesF), (Str.ofString "rows", .lst ((paintAt ts i).map fun r => .lst (r.map .int))), (Str.ofString "thing", .int (0 + (i : Int)))])
      (mu := fun _ => none) (stop := fun _ => False) (dr := fun _ => .none) f S (by walk_at "ev") (by decide) (by decide) (by decide) (by decide) (by decide) ?_ (by walk_at "nm") ?_ ?_ ?_ (by intro v; rfl)
    · intro i hi; walk_at "upd"
    · intro E i g' F₁ s' hi S'
      have hlen : (paintAt ts i).length ≤ 27 := Nat.le_trans (paint_len ts i) (by have : i = 0 ∨ i = 1 ∨ i = 2 ∨ i = 3 := by omega
                                                                                  rcases this with rfl | rfl | rfl | rfl <;> decide)
      refine ex_comp (ρc := [(Str.ofString "ties", .lst (ts.map dTie)), (Str.ofString "hues", dHues huesF)]) (out := (paintAt ts (i + 1)).map fun r => .lst (r.map .int)) (ρ' := [(Str.ofString "ties", .lst (ts.map dTie)), (Str.ofString "lights", .lst (lightsF.map .flt)), (Str.ofString "hues", dHues huesF), (Str.ofString "rows", .lst ((paintAt ts (i + 1)).map fun r => .lst (r.map .int))), (Str.ofString "thing", .int (0 + (i : Int)))]) f S' (by walk_at "cap") rfl (by walk_at "ev") (IterV.lstM Quiet.name) (by walk_at "caps") ?_ (by walk_at "upd") rfl rfl rfl (fun s2 S2 => ex_nil ?_)
      · have hout : (paintAt ts (i + 1)).map (fun r => D.lst (r.map .int)) = (paintAt ts i).flatMap fun row => (light3.filter fun l => shows ts (row ++ [l])).map fun l => D.lst ((row ++ [l]).map .int) := by
          rw [paintAt, List.map_flatMap]
          congr 1; funext row
          rw [List.map_map]; rfl
        rw [hout]
        have hadd : ∀ (row : List Int) (l : Int), D.lst (row.map .int ++ [.int l]) = .lst ((row ++ [l]).map .int) := fun row l => by rw [List.map_append]; rfl
        refine CompRun.two (items := paintAt ts i) (emb := fun r => D.lst (r.map .int)) (d1 := fun _ => .rng 0 3) (items1 := fun _ => light3) (emb1 := D.int) (p := fun row l => shows ts (row ++ [l])) (e := fun row l => D.lst ((row ++ [l]).map .int))
          (ρ1 := fun row => [(Str.ofString "ties", .lst (ts.map dTie)), (Str.ofString "hues", dHues huesF), (Str.ofString "row", .lst (row.map .int))])
          (ρ2 := fun row l => [(Str.ofString "ties", .lst (ts.map dTie)), (Str.ofString "hues", dHues huesF), (Str.ofString "row", .lst (row.map .int)), (Str.ofString "light", .int l)])
          (fun row hr mu => by walk_at "asg") (fun row hr => by walk_at "subl") (fun row hr mu => by walk_at "ev") (fun row hr => IterV.rngM (N := 3) (by decide)) (fun row hr l hl mu => by walk_at "asg") (fun row hr l hl => by walk_at "subl") (fun row hr l hl mu => ?_) (fun row hr l hl hp mu => ?_) (fun k hk => ?_) (fun _ _ => by decide)
        · have ⟨hr1, hr2⟩ := mem_paint ts i row hr
          refine TrS.one (Tr.plain (Ev.call (by walk_at "ev") (by rw [hK]; rfl) (EvL.cons (by walk_at "ev") (EvL.cons (by walk_at "ev") (EvL.cons (Ev.to (Ev.bin (by walk_at "ev") (by walk_at "ev") (BinV.addL (by simp; omega))) (hadd row l)) EvL.nil)))
            (ok_shows hK hts hues_len hues_len2 (by simp; omega) (fun x hx => ?_)) (by decide)) TruV.bool)
          rcases List.mem_append.mp hx with hx | hx
          · exact hr2 x hx
          · rw [List.mem_singleton.mp hx]
            simp only [light3, List.mem_cons, List.not_mem_nil, or_false] at hl
            omega
        · have ⟨hr1, hr2⟩ := mem_paint ts i row hr
          exact Ev.to (Ev.bin (by walk_at "ev") (by walk_at "ev") (BinV.addL (by simp; omega))) (hadd row l)
        · have := flat_len (fun row => (light3.filter fun l => shows ts (row ++ [l])).map fun l => D.lst ((row ++ [l]).map .int)) 3 ((paintAt ts i).take k) (fun row _ => by rw [List.length_map]; exact Nat.le_trans (List.length_filter_le _ _) (Nat.le_refl _))
          have h2 : ((paintAt ts i).take k).length ≤ 27 := Nat.le_trans (by simp [List.length_take]; omega) hlen
          omega
      · exact S2.fewer (by walk_at "subl")
    · intro s2 S2
      exact ex_ret f S2 (by walk_at "ev") fun v s' S' r => ⟨v, rfl, S'.fewer (fun _ h => nomatch h), r⟩
    · intro _ _ _ _ h; exact h.elim
end
noncomputable def places : List Int := [0, 1, 2, 3]
noncomputable def orderAt : Nat → List (List Int)
  | 0 => [[]]
  | i + 1 => (orderAt i).flatMap fun o => (places.filter fun p => !decide (p ∈ o)).map fun p => o ++ [p]
theorem mem_order : ∀ i, ∀ r ∈ orderAt i, r.length = i
  | 0, r, h => by
    have : r = [] := by simpa [orderAt] using h
    subst this
    rfl
  | i + 1, r, h => by
    rw [orderAt] at h
    simp only [List.mem_flatMap, List.mem_map, List.mem_filter] at h
    obtain ⟨row, hr, l, ⟨hl, _⟩, rfl⟩ := h
    simp [mem_order i row hr]
theorem order_len : ∀ i, (orderAt i).length ≤ 4 ^ i
  | 0 => Nat.le_refl _
  | i + 1 => by
    rw [orderAt, Nat.pow_succ]
    refine Nat.le_trans (flat_len _ 4 _ fun row _ => ?_) (Nat.mul_le_mul_right _ (order_len i))
    rw [List.length_map]
    exact Nat.le_trans (List.length_filter_le _ _) (Nat.le_refl _)
noncomputable def wrongO (o : List Int) (t : Tie) : Bool := t.2.2 && decide (o.getD t.1.toNat 0 > o.getD t.2.1.toNat 0)
noncomputable def keepO (ts : List Tie) (o : List Int) : Bool := (ts.filter (wrongO o)).isEmpty
noncomputable def bitsOf (N : Nat) (p : Nat → Bool) : Int := (((List.range N).filter p).map fun k => (2 : Int) ^ k).sum
noncomputable def maskOf (ps : List (Int × Int)) (o : List Int) : Int := bitsOf ps.length fun k => decide (o.getD (ps.getD k (0, 0)).1.toNat 0 < o.getD (ps.getD k (0, 0)).2.toNat 0)
noncomputable def filesAt (ts : List Tie) (ps : List (Int × Int)) (os : List (List Int)) : Nat → List (Int × Int)
  | 0 => []
  | i + 1 => if keepO ts (os.getD i []) then addAt (filesAt ts ps os i) [(maskOf ps (os.getD i []), 1)] 1 else filesAt ts ps os i
theorem filesAt_len (ts : List Tie) (ps : List (Int × Int)) (os : List (List Int)) : ∀ i, (filesAt ts ps os i).length ≤ i
  | 0 => Nat.le_refl _
  | i + 1 => by
    have h := filesAt_len ts ps os i
    rw [filesAt]
    split
    · exact Nat.le_trans (addAt_len _ _ _) (by omega)
    · omega
theorem ones_isEmpty {α : Type} (l : List α) : (l.map fun _ => D.int 1).isEmpty = l.isEmpty := by cases l <;> rfl
section
variable {c : Cx} (hK : c.K = HK c.w.params)
include hK
theorem ok_files {ts : List Tie} {ps : List (Int × Int)} (hz : ts.length ≤ 5) (hts : ∀ t ∈ ts, (0 ≤ t.1 ∧ t.1 < 4) ∧ 0 ≤ t.2.1 ∧ t.2.1 < 4) (hp : ps.length ≤ 6) (hps : ∀ p ∈ ps, (0 ≤ p.1 ∧ p.1 < 4) ∧ 0 ≤ p.2 ∧ p.2 < 4) :
    FnOK c 2 134 [.lst (ts.map dTie), .lst (ps.map dPair)] (.dct (filesAt ts ps (orderAt 4) (orderAt 4).length)) := by
  refine fn_enter (n := 1) [Str.ofString "ties", Str.ofString "pairs"] (ho := by rw [hK]; rfl) (hcd := by rw [hK]; rfl) ?_ ?_ ?_ ?_ ?_
  · intro vs h
    rcases vs with _ | ⟨v, _ | ⟨u, _ | _⟩⟩ <;> first | rfl | simp at h
  · rfl
  · decide
  · rfl
  · intro A E env own F₀ s₀ s f S
    simp only [List.zip_cons_cons, List.zip_nil_right] at S
    refine ex_assign (d := .lst ((orderAt 0).map fun r => .lst (r.map .int))) f S (by walk_at "ev") (by walk_at "upd") (by walk_at "nm") rfl fun s1 S => ?_
    refine ex_forR (N := 4) (a := 0) (b := 4) (ρ := fun i => [(Str.ofString "ties", .lst (ts.map dTie)), (Str.ofString "pairs", .lst (ps.map dPair)), (Str.ofString "orders", .lst ((orderAt i).map fun r => .lst (r.map .int)))])
      (ρ' := fun i => [(Str.ofString "ties", .lst (ts.map dTie)), (Str.ofString "pairs", .lst (ps.map dPair)), (Str.ofString "orders", .lst ((orderAt i).map fun r => .lst (r.map .int))), (Str.ofString "thing", .int (0 + (i : Int)))])
      (mu := fun _ => none) (stop := fun _ => False) (dr := fun _ => .none) f S (by walk_at "ev") (by decide) (by decide) (by decide) (by decide) (by decide) ?_ (by walk_at "nm") ?_ ?_ ?_ (by intro v; rfl)
    · intro i hi; walk_at "upd"
    · intro E i g' F₁ s' hi S'
      have hlen : (orderAt i).length ≤ 64 := Nat.le_trans (order_len i) (by have : i = 0 ∨ i = 1 ∨ i = 2 ∨ i = 3 := by omega
                                                                            rcases this with rfl | rfl | rfl | rfl <;> decide)
      refine ex_comp (ρc := []) (out := (orderAt (i + 1)).map fun r => .lst (r.map .int)) (ρ' := [(Str.ofString "ties", .lst (ts.map dTie)), (Str.ofString "pairs", .lst (ps.map dPair)), (Str.ofString "orders", .lst ((orderAt (i + 1)).map fun r => .lst (r.map .int))), (Str.ofString "thing", .int (0 + (i : Int)))]) f S' (by walk_at "cap") rfl (by walk_at "ev") (IterV.lstM Quiet.name) (by walk_at "caps") ?_ (by walk_at "upd") rfl rfl rfl (fun s2 S2 => ex_nil ?_)
      · have hout : (orderAt (i + 1)).map (fun r => D.lst (r.map .int)) = (orderAt i).flatMap fun row => (places.filter fun l => !decide (l ∈ row)).map fun l => D.lst ((row ++ [l]).map .int) := by
          rw [orderAt, List.map_flatMap]
          congr 1; funext row
          rw [List.map_map]; rfl
        rw [hout]
        have hadd : ∀ (row : List Int) (l : Int), D.lst (row.map .int ++ [.int l]) = .lst ((row ++ [l]).map .int) := fun row l => by rw [List.map_append]; rfl
        refine CompRun.two (items := orderAt i) (emb := fun r => D.lst (r.map .int)) (d1 := fun _ => .rng 0 4) (items1 := fun _ => places) (emb1 := D.int) (p := fun row l => !decide (l ∈ row)) (e := fun row l => D.lst ((row ++ [l]).map .int))
          (ρ1 := fun row => [(Str.ofString "order", .lst (row.map .int))])
          (ρ2 := fun row l => [(Str.ofString "order", .lst (row.map .int)), (Str.ofString "place", .int l)])
          (fun row hr mu => by walk_at "asg") (fun row hr => by walk_at "subl") (fun row hr mu => by walk_at "ev") (fun row hr => IterV.rngM (N := 4) (by decide)) (fun row hr l hl mu => by walk_at "asg") (fun row hr l hl => by walk_at "subl") (fun row hr l hl mu => ?_) (fun row hr l hl hp mu => ?_) (fun k hk => ?_) (fun _ _ => by decide)
        · exact TrS.one (Tr.cmp (by walk_at "ev") (by walk_at "ev") CmpV.notInInts)
        · have hr1 := mem_order i row hr
          exact Ev.to (Ev.bin (by walk_at "ev") (by walk_at "ev") (BinV.addL (by simp; omega))) (hadd row l)
        · have := flat_len (fun row => (places.filter fun l => !decide (l ∈ row)).map fun l => D.lst ((row ++ [l]).map .int)) 4 ((orderAt i).take k) (fun row _ => by rw [List.length_map]; exact Nat.le_trans (List.length_filter_le _ _) (Nat.le_refl _))
          have h2 : ((orderAt i).take k).length ≤ 64 := Nat.le_trans (by simp [List.length_take]; omega) hlen
          omega
      · exact S2.fewer (by walk_at "subl")
    · intro s2 S
      have hO : (orderAt 4).length = 24 := by decide +kernel
      have hO4 := mem_order 4
      generalize orderAt 4 = os at S hO hO4 ⊢
      refine ex_assign f S (Ev.dict0 ⟨91, _, by decide, by rw [hK]; rfl⟩) (by walk_at "upd") (by walk_at "nm") rfl fun s1 S => ?_
      refine ex_forL (items := os) (emb := fun r => .lst (r.map .int)) (ρ := fun i => [(Str.ofString "ties", .lst (ts.map dTie)), (Str.ofString "pairs", .lst (ps.map dPair)), (Str.ofString "orders", .lst (os.map fun r => .lst (r.map .int))), (Str.ofString "files", .dct (filesAt ts ps os i))])
        (ρ' := fun i => [(Str.ofString "ties", .lst (ts.map dTie)), (Str.ofString "pairs", .lst (ps.map dPair)), (Str.ofString "orders", .lst (os.map fun r => .lst (r.map .int))), (Str.ofString "files", .dct (filesAt ts ps os i)), (Str.ofString "order", .lst ((os.getD i []).map .int))])
        (mu := fun _ => none) (stop := fun _ => False) (dr := fun _ => .none) f S (by walk_at "ev") Quiet.name ?_ ?_ ?_ ?_ (by intro v; rfl)
      · intro i o ho
        have e : os.getD i [] = o := by simp [List.getD, ho]
        rw [e]; walk_at "asg"
      · intro E i o g' F₁ s' ho S'
        have e : os.getD i [] = o := by simp [List.getD, ho]
        have hi : i < os.length := (List.getElem?_eq_some_iff.mp ho).1
        have h4 : o.length = 4 := hO4 o (List.mem_of_getElem? ho)
        have hfl := filesAt_len ts ps os i
        have hst : filesAt ts ps os (i + 1) = if keepO ts o then addAt (filesAt ts ps os i) [(maskOf ps o, 1)] 1 else filesAt ts ps os i := by rw [filesAt, e]
        rw [e] at S'
        rw [hst]
        refine ex_if (b := keepO ts o) f S' (Tr.to (Tr.cmp (Ev.comp (ρc := [(Str.ofString "order", .lst (o.map .int))]) (by walk_at "cap") rfl (by walk_at "ev") (IterV.lstM Quiet.tup) (by walk_at "caps")
            (CompRun.one (items := ts) (emb := dTie) (p := wrongO o) (e := fun _ => .int 1)
              (ρ' := fun t => [(Str.ofString "order", .lst (o.map .int)), (Str.ofString "low", .int t.1), (Str.ofString "high", .int t.2.1), (Str.ofString "strict", .bool t.2.2)])
              (fun t ht mu => by walk_at "asg") (fun t ht => by walk_at "subl") (fun t ht mu => ?_) (fun t ht _ mu => by walk_at "ev") (by omega))) (by walk_at "ev") (CmpV.eqNil (okOnes _))) (ones_isEmpty _)) (fun hb s2 S => ?_) (fun hb s2 S => ?_)
        · obtain ⟨⟨h1, h2⟩, h3, h5⟩ := hts t ht
          exact TrS.one (Tr.and2 (by walk_at "ev") fun _ => Tr.cmp (Ev.sub (by walk_at "ev") (by walk_at "ev") (SubV.lst h1 (by omega) (getD_int o _ (by omega)))) (Ev.sub (by walk_at "ev") (by walk_at "ev") (SubV.lst h3 (by omega) (getD_int o _ (by omega)))) (by walk_at "ev"))
        · rw [if_pos hb]
          refine ex_assign (d := .int (maskOf ps o)) f S (Ev.bltc (b := .builtin "sum") (ds := [.lst ((((List.range ps.length).filter fun k => decide (o.getD (ps.getD k (0, 0)).1.toNat 0 < o.getD (ps.getD k (0, 0)).2.toNat 0)).map fun k => (2 : Int) ^ k).map .int)]) (Ev.gB hK rfl rfl rfl) (EvL.cons (Ev.to (Ev.comp (ρc := [(Str.ofString "pairs", .lst (ps.map dPair)), (Str.ofString "order", .lst (o.map .int))]) (by walk_at "cap") rfl (Ev.to (d := .rng 0 (ps.length : Nat)) (by walk_at "ev") (by rw [List.length_map])) (IterV.rngM (N := ps.length) (by omega)) (by walk_at "caps")
              (CompRun.one (items := List.range ps.length) (emb := fun i : Nat => D.int (i : Int)) (p := fun k => decide (o.getD (ps.getD k (0, 0)).1.toNat 0 < o.getD (ps.getD k (0, 0)).2.toNat 0)) (e := fun k => .int ((2 : Int) ^ k))
                (ρ' := fun k => [(Str.ofString "pairs", .lst (ps.map dPair)), (Str.ofString "order", .lst (o.map .int)), (Str.ofString "k", .int (k : Int))])
                (fun t ht mu => by walk_at "asg") (fun t ht => by walk_at "subl") (fun k hk mu => ?_) (fun k hk _ mu => ?_) (by simp; omega))) (by rw [List.map_map]; rfl)) EvL.nil) CallV.sum (.inl ⟨_, rfl⟩) (by simp)) (by walk_at "upd") (by walk_at "nm") rfl fun s2 S => ?_
          · have hk' : k < ps.length := by simpa using hk
            obtain ⟨⟨h1, h2⟩, h3, h5⟩ := hps (ps.getD k (0, 0)) (by rw [List.getD_eq_getElem?_getD, List.getElem?_eq_getElem hk']; exact List.getElem_mem hk')
            have hpk : (ps.map dPair)[((k : Nat) : Int).toNat]? = some (dPair (ps.getD k (0, 0))) := by simp [List.getD, hk']
            exact TrS.one (Tr.cmp (Ev.sub (by walk_at "ev") (Ev.sub (Ev.sub (by walk_at "ev") (by walk_at "ev") (SubV.lst (by omega) (by omega) hpk)) (by walk_at "ev") (SubV.tup (by decide) (by decide) rfl)) (SubV.lst h1 (by omega) (getD_int o _ (by omega))))
              (Ev.sub (by walk_at "ev") (Ev.sub (Ev.sub (by walk_at "ev") (by walk_at "ev") (SubV.lst (by omega) (by omega) hpk)) (by walk_at "ev") (SubV.tup (by decide) (by decide) rfl)) (SubV.lst h3 (by omega) (getD_int o _ (by omega)))) (by walk_at "ev"))
          · have hk' : k < ps.length := by simpa using hk
            exact Ev.bin (by walk_at "ev") (by walk_at "ev") (BinV.pow (a := 2) (b := (k : Int)) (by omega) (by omega) (by decide))
          · refine ex_assign f S (Ev.call (by walk_at "ev") (by rw [hK]; rfl) (EvL.cons (by walk_at "ev") (EvL.cons (Ev.dict1 (by walk_at "ev") (by walk_at "ev") ⟨91, _, by decide, by rw [hK]; rfl⟩) EvL.nil)) (ok_add hK (by omega) (by simp)) (by decide)) (by walk_at "upd") (by walk_at "nm") rfl fun s3 S => ex_nil (ex_nil (S.fewer (by walk_at "subl")))
        · rw [if_neg (by rw [hb]; simp)]
          exact ex_nil (ex_nil (S.fewer (by walk_at "subl")))
      · intro s2 S2
        exact ex_ret f S2 (by walk_at "ev") fun v s' S' r => ⟨v, rfl, S'.fewer (fun _ h => nomatch h), r⟩
      · intro _ _ _ _ h; exact h.elim
    · intro _ _ _ _ h; exact h.elim
end
noncomputable def earlyB (dr : List Int) (ch : Int) (th : Nat) : Bool := decide ((dr.getD th 0).fmod 256 + 256 * Builtin.bitAnd (ch.fdiv (2 ^ th)) 1 < 256)
noncomputable def earlyL (dr : List Int) (ch : Int) : List Bool := (List.range 4).map (earlyB dr ch)
noncomputable def aheadI (ps : List (Int × Int)) (e : List Bool) : Int := bitsOf ps.length fun k => e.getD (ps.getD k (0, 0)).1.toNat false && !e.getD (ps.getD k (0, 0)).2.toNat false
noncomputable def behindI (ps : List (Int × Int)) (e : List Bool) : Int := bitsOf ps.length fun k => e.getD (ps.getD k (0, 0)).2.toNat false && !e.getD (ps.getD k (0, 0)).1.toNat false
noncomputable def fitsM (ps : List (Int × Int)) (e : List Bool) (m : Int) : Bool := Builtin.bitAnd m (Builtin.bitOr (aheadI ps e) (behindI ps e)) == aheadI ps e
noncomputable def choicesAt (kvs ps : List (Int × Int)) (dr : List Int) : Nat → Int
  | 0 => 0
  | i + 1 => choicesAt kvs ps dr i + ((kvs.filter fun kv => fitsM ps (earlyL dr (0 + (i : Int))) kv.1).length : Int)
theorem getD_bool (l : List Bool) (i : Nat) (h : i < l.length) : (l.map D.bool)[i]? = some (.bool (l.getD i false)) := by simp [List.getD, h]
section
variable {c : Cx} (hK : c.K = HK c.w.params)
include hK
theorem ok_choices {kvs ps : List (Int × Int)} {dr : List Int} (hk : kvs.length ≤ 400) (hp : ps.length ≤ 6) (hps : ∀ p ∈ ps, (0 ≤ p.1 ∧ p.1 < 4) ∧ 0 ≤ p.2 ∧ p.2 < 4) (hd : 4 ≤ dr.length) :
    FnOK c 2 139 [.dct kvs, .lst (ps.map dPair), .lst (dr.map .int)] (.int (choicesAt kvs ps dr 16)) := by
  refine fn_enter (n := 1) [Str.ofString "files", Str.ofString "pairs", Str.ofString "draws"] (ho := by rw [hK]; rfl) (hcd := by rw [hK]; rfl) ?_ ?_ ?_ ?_ ?_
  · intro vs h
    rcases vs with _ | ⟨v, _ | ⟨u, _ | ⟨w, _ | _⟩⟩⟩ <;> first | rfl | simp at h
  · rfl
  · decide
  · rfl
  · intro A E env own F₀ s₀ s f S
    simp only [List.zip_cons_cons, List.zip_nil_right] at S
    refine ex_assign f S (by walk_at "ev") (by walk_at "upd") (by walk_at "nm") rfl fun s1 S => ?_
    refine ex_forR (N := 16) (a := 0) (b := 16) (ρ := fun i => [(Str.ofString "files", .dct kvs), (Str.ofString "pairs", .lst (ps.map dPair)), (Str.ofString "draws", .lst (dr.map .int)), (Str.ofString "found", .int (choicesAt kvs ps dr i))])
      (ρ' := fun i => [(Str.ofString "files", .dct kvs), (Str.ofString "pairs", .lst (ps.map dPair)), (Str.ofString "draws", .lst (dr.map .int)), (Str.ofString "found", .int (choicesAt kvs ps dr i)), (Str.ofString "choice", .int (0 + (i : Int)))])
      (mu := fun _ => none) (stop := fun _ => False) (dr := fun _ => .none) f S (by walk_at "ev") (by decide) (by decide) (by decide) (by decide) (by decide) ?_ (by walk_at "nm") ?_ ?_ ?_ (by intro v; rfl)
    · intro i hi; walk_at "upd"
    · intro E i g' F₁ s' hi S
      have hpk : ∀ k, k < ps.length → (ps.map dPair)[((k : Nat) : Int).toNat]? = some (dPair (ps.getD k (0, 0))) := fun k hk' => by simp [List.getD, hk']
      have hpm : ∀ k, k < ps.length → ps.getD k (0, 0) ∈ ps := fun k hk' => by rw [List.getD_eq_getElem?_getD, List.getElem?_eq_getElem hk']; exact List.getElem_mem hk'
      refine ex_assign (d := .lst ((earlyL dr (0 + (i : Int))).map .bool)) f S (Ev.to (Ev.comp (ρc := [(Str.ofString "draws", .lst (dr.map .int)), (Str.ofString "choice", .int (0 + (i : Int)))]) (by walk_at "cap") rfl (by walk_at "ev") (IterV.rngM (N := 4) (by decide)) (by walk_at "caps")
            (CompRun.one (items := List.range 4) (emb := fun i : Nat => D.int (i : Int)) (p := fun _ => true) (e := fun th => .bool (earlyB dr (0 + (i : Int)) th))
              (ρ' := fun th => [(Str.ofString "draws", .lst (dr.map .int)), (Str.ofString "choice", .int (0 + (i : Int))), (Str.ofString "thing", .int (th : Int))])
              (fun t ht mu => by walk_at "asg") (fun t ht => by walk_at "subl") (fun t ht mu => by walk_at "ev") (fun th hth _ mu => ?_) (by simp))) rfl) (by walk_at "upd") (by walk_at "nm") (swap_cell f rfl) fun s2 S => ?_
      · have hth' : th < 4 := by simpa using hth
        exact Ev.call (by walk_at "ev") (by rw [hK]; rfl) (EvL.cons (Ev.bin (Ev.bin (Ev.sub (by walk_at "ev") (by walk_at "ev") (SubV.lst (i := (th : Int)) (by omega) (by omega) (getD_int dr th (by omega)))) (by walk_at "ev") (by walk_at "ev")) (by walk_at "ev") (by walk_at "ev")) EvL.nil) (ok_isterm hK) (by decide)
      have hel : (earlyL dr (0 + (i : Int))).length = 4 := by simp [earlyL]
      have est : choicesAt kvs ps dr (i + 1) = choicesAt kvs ps dr i + ((kvs.filter fun kv => fitsM ps (earlyL dr (0 + (i : Int))) kv.1).length : Int) := rfl
      rw [est]
      generalize earlyL dr (0 + (i : Int)) = el at S hel ⊢
      have tst : ∀ k, k < ps.length → (0 ≤ (ps.getD k (0, 0)).1 ∧ (ps.getD k (0, 0)).1.toNat < 4) ∧ 0 ≤ (ps.getD k (0, 0)).2 ∧ (ps.getD k (0, 0)).2.toNat < 4 := fun k hk' => by
        obtain ⟨⟨h1, h2⟩, h3, h5⟩ := hps _ (hpm k hk')
        omega
      refine ex_assign (d := .int (aheadI ps el)) f S (Ev.bltc (b := .builtin "sum") (ds := [.lst ((((List.range ps.length).filter fun k => el.getD (ps.getD k (0, 0)).1.toNat false && !el.getD (ps.getD k (0, 0)).2.toNat false).map fun k => (2 : Int) ^ k).map .int)]) (Ev.gB hK rfl rfl rfl) (EvL.cons (Ev.to (Ev.comp (ρc := [(Str.ofString "pairs", .lst (ps.map dPair)), (Str.ofString "early", .lst (el.map .bool))]) (by walk_at "cap") rfl (Ev.to (d := .rng 0 (ps.length : Nat)) (by walk_at "ev") (by rw [List.length_map])) (IterV.rngM (N := ps.length) (by omega)) (by walk_at "caps")
              (CompRun.one (items := List.range ps.length) (emb := fun i : Nat => D.int (i : Int)) (p := fun k => el.getD (ps.getD k (0, 0)).1.toNat false && !el.getD (ps.getD k (0, 0)).2.toNat false) (e := fun k => .int ((2 : Int) ^ k))
                (ρ' := fun k => [(Str.ofString "pairs", .lst (ps.map dPair)), (Str.ofString "early", .lst (el.map .bool)), (Str.ofString "k", .int (k : Int))])
                (fun t ht mu => by walk_at "asg") (fun t ht => by walk_at "subl") (fun k hk mu => ?_) (fun k hk _ mu => ?_) (by simp; omega))) (by rw [List.map_map]; rfl)) EvL.nil) CallV.sum (.inl ⟨_, rfl⟩) (by simp)) (by walk_at "upd") (by walk_at "nm") rfl fun s2 S => ?_
      · have hk' : k < ps.length := by simpa using hk
        obtain ⟨⟨h1, h2⟩, h3, h5⟩ := tst k hk'
        exact TrS.one (Tr.and2 (Tr.plain (Ev.sub (by walk_at "ev") (Ev.sub (Ev.sub (by walk_at "ev") (by walk_at "ev") (SubV.lst (by omega) (by omega) (hpk k hk'))) (by walk_at "ev") (SubV.tup (by decide) (by decide) rfl)) (SubV.lst h1 (by omega) (getD_bool el _ (by omega)))) TruV.bool)
          fun _ => Tr.not (Tr.plain (Ev.sub (by walk_at "ev") (Ev.sub (Ev.sub (by walk_at "ev") (by walk_at "ev") (SubV.lst (by omega) (by omega) (hpk k hk'))) (by walk_at "ev") (SubV.tup (by decide) (by decide) rfl)) (SubV.lst h3 (by omega) (getD_bool el _ (by omega)))) TruV.bool))
      · have hk' : k < ps.length := by simpa using hk
        exact Ev.bin (by walk_at "ev") (by walk_at "ev") (BinV.pow (a := 2) (b := (k : Int)) (by omega) (by omega) (by decide))
      refine ex_assign (d := .int (behindI ps el)) f S (Ev.bltc (b := .builtin "sum") (ds := [.lst ((((List.range ps.length).filter fun k => el.getD (ps.getD k (0, 0)).2.toNat false && !el.getD (ps.getD k (0, 0)).1.toNat false).map fun k => (2 : Int) ^ k).map .int)]) (Ev.gB hK rfl rfl rfl) (EvL.cons (Ev.to (Ev.comp (ρc := [(Str.ofString "pairs", .lst (ps.map dPair)), (Str.ofString "early", .lst (el.map .bool))]) (by walk_at "cap") rfl (Ev.to (d := .rng 0 (ps.length : Nat)) (by walk_at "ev") (by rw [List.length_map])) (IterV.rngM (N := ps.length) (by omega)) (by walk_at "caps")
              (CompRun.one (items := List.range ps.length) (emb := fun i : Nat => D.int (i : Int)) (p := fun k => el.getD (ps.getD k (0, 0)).2.toNat false && !el.getD (ps.getD k (0, 0)).1.toNat false) (e := fun k => .int ((2 : Int) ^ k))
                (ρ' := fun k => [(Str.ofString "pairs", .lst (ps.map dPair)), (Str.ofString "early", .lst (el.map .bool)), (Str.ofString "k", .int (k : Int))])
                (fun t ht mu => by walk_at "asg") (fun t ht => by walk_at "subl") (fun k hk mu => ?_) (fun k hk _ mu => ?_) (by simp; omega))) (by rw [List.map_map]; rfl)) EvL.nil) CallV.sum (.inl ⟨_, rfl⟩) (by simp)) (by walk_at "upd") (by walk_at "nm") rfl fun s2 S => ?_
      · have hk' : k < ps.length := by simpa using hk
        obtain ⟨⟨h1, h2⟩, h3, h5⟩ := tst k hk'
        exact TrS.one (Tr.and2 (Tr.plain (Ev.sub (by walk_at "ev") (Ev.sub (Ev.sub (by walk_at "ev") (by walk_at "ev") (SubV.lst (by omega) (by omega) (hpk k hk'))) (by walk_at "ev") (SubV.tup (by decide) (by decide) rfl)) (SubV.lst h3 (by omega) (getD_bool el _ (by omega)))) TruV.bool)
          fun _ => Tr.not (Tr.plain (Ev.sub (by walk_at "ev") (Ev.sub (Ev.sub (by walk_at "ev") (by walk_at "ev") (SubV.lst (by omega) (by omega) (hpk k hk'))) (by walk_at "ev") (SubV.tup (by decide) (by decide) rfl)) (SubV.lst h1 (by omega) (getD_bool el _ (by omega)))) TruV.bool))
      · have hk' : k < ps.length := by simpa using hk
        exact Ev.bin (by walk_at "ev") (by walk_at "ev") (BinV.pow (a := 2) (b := (k : Int)) (by omega) (by omega) (by decide))
      refine ex_aug (d1 := .int ((kvs.filter fun kv => fitsM ps el kv.1).length : Int)) f S (by walk_at "mem") (Ev.to (d' := .int ((((kvs.filter fun kv => fitsM ps el kv.1).map fun kv => D.int kv.1).length : Nat) : Int)) (Ev.bltc (b := .builtin "len") (ds := [.lst ((kvs.filter fun kv => fitsM ps el kv.1).map fun kv => .int kv.1)]) (Ev.gB hK rfl rfl rfl) (EvL.cons (Ev.comp (ρc := [(Str.ofString "ahead", .int (aheadI ps el)), (Str.ofString "behind", .int (behindI ps el))]) (by walk_at "cap") rfl (by walk_at "ev") (IterV.keys rfl) (by walk_at "caps")
              (CompRun.one (items := kvs) (emb := fun kv => D.int kv.1) (p := fun kv => fitsM ps el kv.1) (e := fun kv => .int kv.1)
                (ρ' := fun kv => [(Str.ofString "ahead", .int (aheadI ps el)), (Str.ofString "behind", .int (behindI ps el)), (Str.ofString "mask", .int kv.1)])
                (fun t ht mu => by walk_at "asg") (fun t ht => by walk_at "subl") (fun k hk mu => by walk_at "ev") (fun k hk _ mu => by walk_at "ev") (by omega))) EvL.nil) (CallV.lenL ?_) (.inl ⟨_, rfl⟩) (by simp)) (by rw [List.length_map])) InpV.add (by walk_at "upd") (by walk_at "nm") fun s3 S => ex_nil (S.fewer (by walk_at "subl"))
      · rw [List.length_map]
        exact Nat.le_trans (List.length_filter_le _ _) (by omega)
    · intro s2 S2
      exact ex_ret f S2 (by walk_at "ev") fun v s' S' r => ⟨v, rfl, S'.fewer (fun _ h => nomatch h), r⟩
    · intro _ _ _ _ h; exact h.elim
end
noncomputable def abd : Str := Str.ofString "ab\"d"
noncomputable def opsL : List Str := ["<", ">", "!=", "!=", "<", ">"]
noncomputable def tailsL : List Str := ["\" told", "\"", "\" told", "", "\" told"]
noncomputable def textS (one two kind : Int) : Str := Txt.item abd one ++ opsL.getD kind.toNat Str.empty ++ Txt.item abd two
noncomputable def headS (kind : Int) : Str := if kind == 4 then "250 \"" else "257 \""
noncomputable def replyS (one two kind : Int) : Str :=
  if kind == 5 then Str.ofString "257 at " ++ textS one two kind else headS kind ++ Txt.replace (textS one two kind) "\"" "\"\"" ++ tailsL.getD kind.toNat Str.empty
noncomputable def okReply (one two kind : Int) : Bool :=
  fitsSsize one && (Txt.charAt abd one).isSome && fitsSsize two && (Txt.charAt abd two).isSome && decide (0 ≤ kind) && decide (kind < 6) &&
  decide ((Txt.item abd one).length + (opsL.getD kind.toNat Str.empty).length ≤ 1000) && decide ((Txt.item abd one ++ opsL.getD kind.toNat Str.empty).length + (Txt.item abd two).length ≤ 1000) &&
  decide ((Str.ofString "257 at ").length + (textS one two kind).length ≤ 1000) && decide ((textS one two kind).length ≤ 1000) && decide ((headS kind).length + (Txt.replace (textS one two kind) "\"" "\"\"").length ≤ 1000) &&
  decide ((headS kind ++ Txt.replace (textS one two kind) "\"" "\"\"").length + (tailsL.getD kind.toNat Str.empty).length ≤ 1000)
theorem getD_str (l : List Str) (i : Nat) (h : i < l.length) : (l.map D.str)[i]? = some (.str (l.getD i Str.empty)) := by simp [List.getD, h]
theorem q2_len : (Str.ofString "\"\"").length = 2 := by decide +kernel
section
variable {c : Cx} (hK : c.K = HK c.w.params)
include hK
theorem ok_reply {x one two kind : Int} (hp : dPairs[(x.fmod 6).toNat]? = some (one, two)) (h0 : 0 ≤ x.fmod 6) (h1 : x.fmod 6 < 6) (hkind : (x.fdiv 6).fmod 6 = kind) (hok : okReply one two kind = true) : FnOK c 2 98 [.int x] (.str (replyS one two kind)) := by
  simp only [okReply, Bool.and_eq_true, decide_eq_true_eq] at hok
  obtain ⟨⟨⟨⟨⟨⟨⟨⟨⟨⟨⟨o1, o2⟩, o3⟩, o4⟩, o5⟩, o6⟩, o7⟩, o8⟩, o9⟩, o10⟩, o11⟩, o12⟩ := hok
  refine fn_enter (n := 1) [Str.ofString "x"] (ho := by rw [hK]; rfl) (hcd := by rw [hK]; rfl) ?_ ?_ ?_ ?_ ?_
  · intro vs h
    rcases vs with _ | ⟨v, _ | _⟩ <;> first | rfl | simp at h
  · rfl
  · decide
  · rfl
  · intro A E env own F₀ s₀ s f S
    simp only [List.zip_cons_cons, List.zip_nil_right] at S
    refine ex_assignA f S (Ev.sub (Ev.call0 (by walk_at "ev") (by rw [hK]; rfl) (ok_pairs hK) (by decide)) (by walk_at "ev") (SubV.lst h0 (by omega) (d := dPair (one, two)) (by simp [hp]))) (Asg.tuple (AsgL.cons (by walk_at "upd") (.inl rfl) (AsgL.cons (by walk_at "upd") (.inl rfl) AsgL.nil)) names2) (fun s1 S => ?_) rfl rfl rfl
    refine ex_assign (d := .int kind) f S (by rw [← hkind]; walk_at "ev") (by walk_at "upd") (by walk_at "nm") rfl fun s1 S => ?_
    refine ex_assign (d := .str (textS one two kind)) f S (Ev.bin (Ev.bin (Ev.sub (by walk_at "ev") (by walk_at "ev") (SubV.str (x := abd) o1 o2)) (Ev.sub (d1 := .lst (opsL.map .str)) (by walk_at "ev") (by walk_at "ev") (SubV.lst o5 (by omega) (getD_str opsL kind.toNat (show _ < 6 by omega)))) (BinV.cat o7)) (Ev.sub (by walk_at "ev") (by walk_at "ev") (SubV.str (x := abd) o3 o4)) (BinV.cat o8)) (by walk_at "upd") (by walk_at "nm") rfl fun s1 S => ?_
    unfold replyS
    generalize textS one two kind = text at S o9 o10 o11 o12 ⊢
    refine ex_if (b := kind == 5) f S (by walk_at "ev") (fun hb s2 S => ?_) (fun hb s2 S => ex_nil ?_)
    · rw [if_pos hb]
      exact ex_ret f S (Ev.bin (by walk_at "ev") (by walk_at "ev") (BinV.cat o9)) fun v s' S' r => ⟨v, rfl, S'.fewer (fun _ h => nomatch h), r⟩
    rw [if_neg (by rw [hb]; simp)]
    have h5 : ¬ kind = 5 := by simpa using hb
    refine ex_assign_ifstr (b := kind == 4) f S (by walk_at "ev") (by walk_at "upd") rfl rfl fun s1 htk S => ?_
    refine ex_ret_replace (a := headS kind) (b := text) (w := tailsL.getD kind.toNat Str.empty) f htk S (by walk_at "mem") rfl (by walk_at "mem") rfl (by decide) (by decide) (Ev.sub (d1 := .lst (tailsL.map .str)) (by walk_at "ev") (by walk_at "ev") (SubV.lst o5 (by omega) (getD_str tailsL kind.toNat (show _ < 5 by omega)))) (by decide +kernel) ?_ o11 o12 rfl rfl fun v s' S' r => ⟨v, rfl, S'.fewer (fun _ h => nomatch h), r⟩
    rw [q2_len]; omega
end
noncomputable def qS : Str := Str.ofString "\""
noncomputable def isQ (x : Str) (i : Nat) : Bool := Txt.item x (i : Int) == qS
noncomputable def pbrk (x : Str) (i : Nat) : Bool := isQ x i && (decide (x.length ≤ i + 1) || !isQ x (i + 1))
noncomputable def pnext (x : Str) (p : Nat × Str) : Nat × Str := (if isQ x p.1 then p.1 + 2 else p.1 + 1, p.2 ++ Txt.item x (p.1 : Int))
noncomputable def pst (x : Str) : Nat → Nat × Str
  | 0 => (5, Str.ofString "")
  | k + 1 => pnext x (pst x k)
noncomputable def pres (x : Str) : Nat → Nat × Str → Str
  | 0, p => p.2
  | k + 1, p => if p.1 < x.length then (if pbrk x p.1 then p.2 else pres x k (pnext x p)) else p.2
theorem pst_ge (x : Str) : ∀ k, 5 + k ≤ (pst x k).1
  | 0 => Nat.le_refl _
  | k + 1 => by
    have := pst_ge x k
    show 5 + (k + 1) ≤ (if isQ x (pst x k).1 then (pst x k).1 + 2 else (pst x k).1 + 1)
    split <;> omega
theorem pst_len (x : Str) : ∀ k, (pst x k).2.length ≤ k
  | 0 => Nat.le_refl _
  | k + 1 => by
    have := pst_len x k
    show ((pst x k).2 ++ Txt.item x ((pst x k).1 : Int)).length ≤ k + 1
    rw [cat_len, item_len]; omega
noncomputable def parseS (x : Str) : Str := if !(Txt.slice x (some 3) (some 5) == Str.ofString " \"") then Str.ofString "" else pres x x.length (pst x 0)
section
variable {c : Cx} (hK : c.K = HK c.w.params)
include hK
theorem ok_parse {x : Str} (hz : x.length ≤ 900) (h3 : (Txt.slice x none (some 3) == Str.ofString "257") = true) : FnOK c 1 67 [.str x] (.str (parseS x)) := by
  refine fn_enter (n := 0) [Str.ofString "resp"] (ho := by rw [hK]; rfl) (hcd := by rw [hK]; rfl) ?_ ?_ ?_ ?_ ?_
  · intro vs h
    rcases vs with _ | ⟨v, _ | _⟩ <;> first | rfl | simp at h
  · rfl
  · decide
  · rfl
  · intro A E env own F₀ s₀ s f S
    simp only [List.zip_cons_cons, List.zip_nil_right] at S
    refine ex_if (b := false) f S (Tr.to (Tr.cmp (Ev.sliceS (by walk_at "ev") PartE.none (PartE.some (by walk_at "ev")) (by omega)) (by walk_at "ev") CmpV.sne) (by rw [h3]; rfl)) (fun h => nomatch h) (fun _ s1 S => ex_nil ?_)
    refine ex_if (b := !(Txt.slice x (some 3) (some 5) == Str.ofString " \"")) f S (Tr.cmp (Ev.sliceS (by walk_at "ev") (PartE.some (by walk_at "ev")) (PartE.some (by walk_at "ev")) (by omega)) (by walk_at "ev") CmpV.sne) (fun hb s1 S => ?_) (fun hb s1 S => ex_nil ?_)
    · unfold parseS
      rw [if_pos hb]
      exact ex_ret f S (by walk_at "ev") fun v s' S' r => ⟨v, rfl, S'.fewer (fun _ h => nomatch h), r⟩
    unfold parseS
    rw [if_neg (by rw [hb]; simp)]
    refine ex_assign f S (by walk_at "ev") (by walk_at "upd") (by walk_at "nm") rfl fun s1 S => ?_
    refine ex_assign f S (by walk_at "ev") (by walk_at "upd") (by walk_at "nm") rfl fun s1 S => ?_
    have hlenE : CallV (.builtin "len") [.str x] (.int (x.length : Int)) := .mk fun prog w A E F s vs hh hu hl live r => by
      refine RepL.e1 r fun v r1 => ?_
      refine Rep.estr r1 fun _ => ?_
      exact P.len_str (by omega) ⟨⟨s.heap, _, rfl, fun _ _ e => e⟩, .int _ _⟩
    refine ex_assign f S (Ev.bltc (b := .builtin "len") (Ev.gB hK rfl rfl rfl) (by walk_at "ev") hlenE (.inl ⟨_, rfl⟩) (by simp)) (by walk_at "upd") (by walk_at "nm") rfl fun s1 S => ?_
    have S0 := S.fact (x := Str.ofString "resp") (d := .str x) (p := pres x (x.length - 0) (pst x 0) = pres x x.length (pst x 0)) (by walk_at "mem") rfl
    refine ex_while (N := x.length) (b := fun k => decide (((pst x k).1 : Int) < (x.length : Int)))
      (ρ := fun k => [(Str.ofString "resp", .str x), (Str.ofString "dirname", .str (pst x k).2), (Str.ofString "i", .int ((pst x k).1 : Int)), (Str.ofString "n", .int (x.length : Int)), (Str.ofString "resp", .fact (pres x (x.length - k) (pst x k) = pres x x.length (pst x 0)))])
      (ρd := [(Str.ofString "dirname", .str (pres x x.length (pst x 0)))]) f S0 (fun k hk => by walk_at "ev") (fun s' _ => decide_eq_false (by have := pst_ge x x.length; omega)) ?_ ?_ ?_
    · intro E k s' hk hb S
      have hlt : (pst x k).1 < x.length := by simpa using hb
      have hfact : pres x (x.length - k) (pst x k) = pres x x.length (pst x 0) := S.told (by walk_at "mem")
      have hl := pst_len x k
      have hnx : pst x (k + 1) = pnext x (pst x k) := rfl
      rw [hnx]
      generalize pst x k = p at S hlt hfact hl ⊢
      obtain ⟨i, d⟩ := p
      simp only at S hlt hfact hl ⊢
      have hsub : x.length - k = (x.length - (k + 1)) + 1 := by omega
      rw [hsub, pres, if_pos hlt] at hfact
      refine ex_assign f S (Ev.sub (by walk_at "ev") (by walk_at "ev") (SubV.str (fits_small (by omega)) (charAt_some hlt))) (by walk_at "upd") (by walk_at "nm") rfl fun s1 S => ?_
      refine ex_assign (d := .int ((i + 1 : Nat) : Int)) f S (Ev.to (by walk_at "ev") (by rw [Int.natCast_add]; rfl)) (by walk_at "upd") (by walk_at "nm") rfl fun s1 S => ?_
      have fin : ∀ s' j, j = (pnext x (i, d)).1 → St c s₀ s₀.heap.get? own F₀ env [(Str.ofString "resp", .str x), (Str.ofString "dirname", .str (d ++ Txt.item x (i : Int))), (Str.ofString "i", .int (j : Nat)), (Str.ofString "n", .int (x.length : Int))] none s' → pbrk x i = false →
          St c s₀ s₀.heap.get? own F₀ env [(Str.ofString "resp", .str x), (Str.ofString "dirname", .str (pnext x (i, d)).2), (Str.ofString "i", .int ((pnext x (i, d)).1 : Int)), (Str.ofString "n", .int (x.length : Int)), (Str.ofString "resp", .fact (pres x (x.length - (k + 1)) (pnext x (i, d)) = pres x x.length (pst x 0)))] none s' := fun s' j hj S' hp => by
        subst hj
        rw [hp] at hfact
        exact S'.fact (x := Str.ofString "resp") (d := .str x) (by walk_at "mem") hfact
      refine ex_if (b := isQ x i) f S (by walk_at "ev") (fun hq s2 S => ?_) (fun hq s2 S => ex_nil ?_)
      · refine ex_if (b := decide (x.length ≤ i + 1) || !isQ x (i + 1)) f S (Tr.to (Tr.or2 (b := !isQ x (i + 1)) (by walk_at "ev") fun hfalse => ?_) ?_) (fun hb2 s3 S => ?_) (fun hb2 s3 S => ex_nil ?_)
        · have hlt2 : i + 1 < x.length := by simp at hfalse; omega
          exact Tr.cmp (Ev.sub (by walk_at "ev") (by walk_at "ev") (SubV.str (i := ((i + 1 : Nat) : Int)) (fits_small (by omega)) (charAt_some hlt2))) (by walk_at "ev") CmpV.sne
        · congr 1
          rw [decide_eq_decide]; omega
        · refine ex_break ?_
          have hp : pbrk x i = true := by rw [pbrk, hq, hb2]; rfl
          rw [hp] at hfact
          simp only [if_true] at hfact
          show St _ _ _ _ _ _ _ _ _
          rw [← hfact]
          exact S.fewer (by walk_at "subl")
        · refine ex_assign (d := .int ((i + 2 : Nat) : Int)) f S (Ev.to (by walk_at "ev") (by congr 1)) (by walk_at "upd") (by walk_at "nm") rfl fun s4 S => ex_nil ?_
          refine ex_assign f S (Ev.bin (by walk_at "ev") (by walk_at "ev") (BinV.cat (by rw [item_len]; omega))) (by walk_at "upd") (by walk_at "nm") rfl fun s4 S => ex_nil ?_
          exact fin s4 (i + 2) (by simp [pnext, hq]) (S.fewer (by walk_at "subl")) (by rw [pbrk, hq, hb2]; rfl)
      · refine ex_assign f S (Ev.bin (by walk_at "ev") (by walk_at "ev") (BinV.cat (by rw [item_len]; omega))) (by walk_at "upd") (by walk_at "nm") rfl fun s4 S => ex_nil ?_
        exact fin s4 (i + 1) (by simp [pnext, hq]) (S.fewer (by walk_at "subl")) (by rw [pbrk, hq]; rfl)
    · intro k s' hk hb S
      have hge : ¬ (pst x k).1 < x.length := by simpa using hb
      have hfact : pres x (x.length - k) (pst x k) = pres x x.length (pst x 0) := S.told (by walk_at "mem")
      have e : pres x (x.length - k) (pst x k) = (pst x k).2 := by
        cases x.length - k with
        | zero => rfl
        | succ m => rw [pres, if_neg hge]
      rw [← hfact, e]
      exact S.fewer (by walk_at "subl")
    · intro s' S
      exact ex_ret f S (by walk_at "ev") fun v s' S' r => ⟨v, rfl, S'.fewer (fun _ h => nomatch h), r⟩
end
section
variable {c : Cx} (hK : c.K = HK c.w.params)
include hK
theorem ok_read_nothing {x : Str} (hp : FnOK c 1 67 [.str x] (.str (Str.ofString ""))) : FnOK c 2 112 [.str x] (.str (Str.ofString "nothing")) := by
  refine fn_enter (n := 1) [Str.ofString "reply"] (ho := by rw [hK]; rfl) (hcd := by rw [hK]; rfl) ?_ ?_ ?_ ?_ ?_
  · intro vs h
    rcases vs with _ | ⟨v, _ | _⟩ <;> first | rfl | simp at h
  · rfl
  · decide
  · rfl
  · intro A E env own F₀ s₀ s f S
    simp only [List.zip_cons_cons, List.zip_nil_right] at S
    refine ex_try_ok (fun E => ex_assign f S (Ev.call (by walk_at "ev") (by rw [hK]; rfl) (by walk_at "ev") hp (by decide)) (by walk_at "upd") (by walk_at "nm") rfl fun s1 S => ex_nil ⟨rfl, S⟩) fun s1 S => ?_
    refine ex_if (b := true) f S (Tr.to (by walk_at "ev") (by decide)) (fun hb s2 S => ?_) (fun hb => nomatch hb)
    exact ex_ret f S (by walk_at "ev") fun v s' S' r => ⟨v, rfl, S'.fewer (fun _ h => nomatch h), r⟩

noncomputable def readD (said one two : Int) : D := if said = 20 then .tup [.int one, .int two, .bool true] else if said = 21 then .tup [.int two, .int one, .bool true] else .tup [.int one, .int two, .bool false]
theorem ok_read_tie {x text : Str} {said one two : Int} {tk : Tok} (hp : FnOK c 1 67 [.str x] (.str text)) (ht : (text == Str.ofString "") = false) (hz : text.length ≤ 900) (h0 : (Txt.charAt text 0).isSome = true) (h1 : (Txt.charAt text (-1)).isSome = true)
    (hop : nsIn c.K 68 (Txt.slice text (some 1) (some (-1))) = some (some (.int said tk))) (hone : Txt.find abd (Txt.item text 0) = one) (htwo : Txt.find abd (Txt.item text (-1)) = two) (hs : said = 20 ∨ said = 21 ∨ said = 28) :
    FnOK c 2 112 [.str x] (readD said one two) := by
  refine fn_enter (n := 1) [Str.ofString "reply"] (ho := by rw [hK]; rfl) (hcd := by rw [hK]; rfl) ?_ ?_ ?_ ?_ ?_
  · intro vs h
    rcases vs with _ | ⟨v, _ | _⟩ <;> first | rfl | simp at h
  · rfl
  · decide
  · rfl
  · intro A E env own F₀ s₀ s f S
    simp only [List.zip_cons_cons, List.zip_nil_right] at S
    refine ex_try_ok (fun E => ex_assign f S (Ev.call (by walk_at "ev") (by rw [hK]; rfl) (by walk_at "ev") hp (by decide)) (by walk_at "upd") (by walk_at "nm") rfl fun s1 S => ex_nil ⟨rfl, S⟩) fun s1 S => ?_
    refine ex_if (b := false) f S (Tr.to (by walk_at "ev") ht) (fun hb => nomatch hb) (fun hb s2 S => ex_nil ?_)
    refine ex_assign (d := .int one) f S (Ev.to (Ev.find (by walk_at "ev") (Ev.sub (by walk_at "ev") (by walk_at "ev") (SubV.str (by decide) h0)) (by intro _; rfl) rfl (by intro _; rfl)) (by rw [← hone]; rfl)) (by walk_at "upd") (by walk_at "nm") rfl fun s1 S => ?_
    refine ex_assign (d := .int two) f S (Ev.to (Ev.find (by walk_at "ev") (Ev.sub (by walk_at "ev") (by walk_at "ev") (SubV.str (by decide) h1)) (by intro _; rfl) rfl (by intro _; rfl)) (by rw [← htwo]; rfl)) (by walk_at "upd") (by walk_at "nm") rfl fun s1 S => ?_
    refine ex_assign (d := .int said) f S (Ev.subK (by walk_at "ev") (Ev.sliceS (by walk_at "ev") (PartE.some (by walk_at "ev")) (PartE.some (by walk_at "ev")) (by omega)) (by rw [hK]; rfl) (by repeat (first | exact True.intro | refine And.intro ⟨_, _, rfl, rfl⟩ ?_)) hop (by intro _ _; rfl)) (by walk_at "upd") (by walk_at "nm") rfl fun s1 S => ?_
    unfold readD
    refine ex_if f S (by walk_at "ev") (fun hb s3 S3 => ?_) (fun hb s3 S3 => ex_nil ?_)
    · have hk : said = 20 := by simpa using hb
      rw [if_pos hk]
      exact ex_ret f S3 (by walk_at "ev") fun v s' S' r => ⟨v, rfl, S'.fewer (fun _ h => nomatch h), r⟩
    have hk : ¬ said = 20 := by simpa using hb
    rw [if_neg hk]
    refine ex_if f S3 (by walk_at "ev") (fun hb s3 S3 => ?_) (fun hb s3 S3 => ex_nil ?_)
    · have hk : said = 21 := by simpa using hb
      rw [if_pos hk]
      exact ex_ret f S3 (by walk_at "ev") fun v s' S' r => ⟨v, rfl, S'.fewer (fun _ h => nomatch h), r⟩
    have hk2 : ¬ said = 21 := by simpa using hb
    rw [if_neg hk2]
    have hk3 : said = 28 := by omega
    refine ex_ret f S3 (Ev.ifx (b := said == 28) (by walk_at "ev") (fun hb => by walk_at "ev") (fun hb => ?_)) fun v s' S' r => ⟨v, rfl, S'.fewer (fun _ h => nomatch h), r⟩
    rw [hk3] at hb; cases hb
end
section
variable {c : Cx} (hK : c.K = HK c.w.params)
include hK
theorem ok_read_refused {x : Str} (hz : x.length ≤ 900) (h3 : (Txt.slice x none (some 3) == Str.ofString "257") = false) {A : Around} {F₀ : List Addr} {s : Shared} {vs : List Value} {L : Addr} {envL : Env} (ok : c.Ok) (room : Room A 2) (fr : A.frames = some [envL])
    (hkL : envL.scope.kind ≠ .module) (hfL : envL.frame = some L) (hL : ∃ o, s.heap.get? L = some o ∧ ∀ vs, o.data ≠ .fields vs) (hLb : c.b0.get? L = none) (hb : ∀ b o, c.b0.get? b = some o → s.heap.get? b = some o) (live : Live F₀ s.heap) (rep : RepL F₀ s.heap vs [.str x]) :
    codeAny (model c.prog c.w) A (.call (.ref 112) ⟨vs, []⟩) (fun res s' => ∃ v, res = .ok (.ret v) ∧ KpX L s s' ∧ Rep F₀ s'.heap v (.str (Str.ofString "refused"))) s := by
  obtain ⟨oL, hoL, hnL⟩ := hL
  refine fn_enterG (n := 1) (ds := [.str x]) [Str.ofString "reply"] (ho := by rw [hK]; rfl) (hcd := by rw [hK]; rfl) ?_ ?_ ?_ ?_ ok room hb live rep (fun env own s₁ f hfr S => ?_)
  · intro vs h
    rcases vs with _ | ⟨v, _ | _⟩ <;> first | rfl | simp at h
  · rfl
  · decide
  · rfl
  · simp only [List.zip_cons_cons, List.zip_nil_right] at S
    have hfm : (env :: [envL]).filterMap (·.frame) = [env.locals, L] := by simp [hfr, hfL]
    have hln : s.heap.get? env.locals = none := S.fresh _ S.loc
    refine ex_try_caught (outer := [envL]) (C := 58) f S (Around.frames_deeper fr) hfr ?_ (by walk_at "ev") (by rw [hK]; rfl) (by walk_at "ev") rfl ?_ rfl (by rw [hK]; rfl) (by decide) (by rw [hK]; rfl) rfl ?_
    · rw [hfm]
      intro b hb'
      rcases List.mem_cons.mp hb' with rfl | hb'
      · cases e : c.b0.get? env.locals with
        | none => rfl
        | some o => have := hb _ _ e; rw [hln] at this; cases this
      · rw [List.mem_singleton.mp hb']; exact hLb
    · intro s' vs' S' rep'
      have hff : s'.heap.FunFrames (hideAll s'.heap ((env :: [envL]).filterMap (·.frame))) (env :: [envL]) := by
        obtain ⟨m, ⟨o, es, ep, ho, hd, hr⟩, _⟩ := S'.vars
        refine ⟨by rw [f.ev.kind]; decide, ⟨env.locals, o, hfr, hideAll_none _ (by rw [hfm]; exact .head _), ho, fun vs q => by rw [hd] at q; cases q⟩, hkL, ⟨L, oL, hfL, hideAll_none _ (by rw [hfm]; exact .tail _ (.head _)), S'.keep _ _ hoL, hnL⟩, trivial⟩
      refine fn_enterG (n := 0) (ds := [.str x]) [Str.ofString "resp"] (ho := by rw [hK]; rfl) (hcd := by rw [hK]; rfl) ?_ ?_ ?_ ?_ ok f.room S'.b0 S'.lives rep' (fun env2 own2 s2 f2 hfr2 S2 => ?_)
      · intro vs h
        rcases vs with _ | ⟨v, _ | _⟩ <;> first | rfl | simp at h
      · rfl
      · decide
      · rfl
      · simp only [List.zip_cons_cons, List.zip_nil_right] at S2
        refine ex_if (b := true) f2 S2 (Tr.to (Tr.cmp (Ev.sliceS (by walk_at "ev") PartE.none (PartE.some (by walk_at "ev")) (by omega)) (by walk_at "ev") CmpV.sne) (by rw [h3]; rfl)) (fun _ s3 S3 => ?_) (fun h => nomatch h)
        exact ex_raise f2 S3 (own_of_in ok.X ok.T (C := 58) (bmB := [.type "Exception", .type "BaseException", .type "object"]) (newId := "Exception.__new__") (by rw [hK]; rfl) (by rw [hK]; with_unfolding_all rfl)) PySem.F.excBase_Exception (by walk_at "ev") (by walk_at "ev") rfl
          fun vs s4 h' e S4 hm => leave_made (Around.frames_deeper fr) hff f2.ev hfr2 S4 hm
    · intro t s' same kk ups
      refine ⟨_, rfl, ⟨S.same.trans same, fun b o hbL e => kk b o ?_ (S.keep b o e), fun o e => ?_⟩, .str _ _⟩
      · rw [hfm]
        intro m
        rcases List.mem_cons.mp m with rfl | m
        · rw [hln] at e; cases e
        · exact hbL (List.mem_singleton.mp m)
      · rw [hoL] at e; cases e
        exact ups _ _ (S.keep _ _ hoL) hnL
end
noncomputable def pairOf (x : Int) : Int × Int := dPairs.getD (x.fmod 6).toNat (0, 0)
noncomputable def kindOf' (x : Int) : Int := (x.fdiv 6).fmod 6
noncomputable def dueX (x : Int) : D := dueD (pairOf x).1 (pairOf x).2 (kindOf' x)
noncomputable def opOf (j : Int) : Str := if j = 0 then "<" else if j = 1 then ">" else "!="
noncomputable def caseOK (i j : Nat) : Bool :=
  let p := dPairs.getD i (0, 0)
  let r := replyS p.1 p.2 (j : Int)
  okReply p.1 p.2 (j : Int) && decide (r.length ≤ 900) &&
    (if j = 4 then !(Txt.slice r none (some 3) == Str.ofString "257") else (Txt.slice r none (some 3) == Str.ofString "257") &&
      (if j = 5 then parseS r == Str.ofString "" else !(parseS r == Str.ofString "") && decide ((parseS r).length ≤ 900) && (Txt.charAt (parseS r) 0).isSome && (Txt.charAt (parseS r) (-1)).isSome &&
        (Txt.find abd (Txt.item (parseS r) 0) == p.1) && (Txt.find abd (Txt.item (parseS r) (-1)) == p.2) && (Txt.slice (parseS r) (some 1) (some (-1)) == opOf (j : Int))))
theorem all_cases : ((List.range 6).all fun i => (List.range 6).all fun j => caseOK i j) = true := by decide +kernel
theorem case_ok {i j : Nat} (hi : i < 6) (hj : j < 6) : caseOK i j = true := by
  have h1 := List.all_eq_true.mp all_cases i (by simpa using hi)
  exact List.all_eq_true.mp h1 j (by simpa using hj)
theorem mod6 (x : Int) : 0 ≤ x.fmod 6 ∧ x.fmod 6 < 6 := by
  rw [Int.fmod_eq_emod_of_nonneg _ (by decide)]
  omega
theorem pair_at (x : Int) : dPairs[(x.fmod 6).toNat]? = some (pairOf x) := by
  have h := mod6 x
  have : (x.fmod 6).toNat < 6 := by omega
  have h2 : (x.fmod 6).toNat < dPairs.length := this
  rw [pairOf, List.getD_eq_getElem?_getD, List.getElem?_eq_getElem h2]; rfl
section
variable {c : Cx} (hK : c.K = HK c.w.params)
include hK
theorem ok_read_all {x : Int} (h4 : kindOf' x ≠ 4) : FnOK c 2 112 [.str (replyS (pairOf x).1 (pairOf x).2 (kindOf' x))] (dueX x) := by
  have h1 := mod6 x
  have h2 : 0 ≤ kindOf' x ∧ kindOf' x < 6 := mod6 (x.fdiv 6)
  have hc := case_ok (i := (x.fmod 6).toNat) (j := (kindOf' x).toNat) (by omega) (by omega)
  have hj : (((kindOf' x).toNat : Nat) : Int) = kindOf' x := by omega
  unfold caseOK at hc
  simp only [hj] at hc
  show FnOK c 2 112 [.str (replyS (pairOf x).1 (pairOf x).2 (kindOf' x))] (dueD (pairOf x).1 (pairOf x).2 (kindOf' x))
  have hp : dPairs.getD (x.fmod 6).toNat (0, 0) = pairOf x := rfl
  rw [hp] at hc
  generalize pairOf x = p at hc ⊢
  generalize kindOf' x = kind at *
  rw [if_neg (show ¬ kind.toNat = 4 by omega)] at hc
  by_cases h5 : kind = 5
  · rw [if_pos (show kind.toNat = 5 by omega)] at hc
    simp only [Bool.and_eq_true, decide_eq_true_eq] at hc
    obtain ⟨⟨o1, o2⟩, o3, o4⟩ := hc
    have hd : dueD p.1 p.2 kind = .str (Str.ofString "nothing") := by subst h5; rfl
    rw [hd]
    refine ok_read_nothing hK ?_
    have := ok_parse hK o2 o3
    rwa [eq_of_beq o4] at this
  · rw [if_neg (show ¬ kind.toNat = 5 by omega)] at hc
    simp only [Bool.and_eq_true, decide_eq_true_eq, Bool.not_eq_true'] at hc
    obtain ⟨⟨o1, o2⟩, o3, ⟨⟨⟨⟨⟨o4, o5⟩, o6⟩, o7⟩, o8⟩, o9⟩, o10⟩ := hc
    have hop := eq_of_beq o10
    have hparse := ok_parse hK o2 o3
    have hk : kind = 0 ∨ kind = 1 ∨ kind = 2 ∨ kind = 3 := by omega
    rcases hk with rfl | rfl | rfl | rfl
    · exact ok_read_tie (said := 20) hK hparse o4 o5 o6 o7 (by rw [hop, hK]; rfl) (eq_of_beq o8) (eq_of_beq o9) (.inl rfl)
    · exact ok_read_tie (said := 21) hK hparse o4 o5 o6 o7 (by rw [hop, hK]; rfl) (eq_of_beq o8) (eq_of_beq o9) (.inr (.inl rfl))
    · exact ok_read_tie (said := 28) hK hparse o4 o5 o6 o7 (by rw [hop, hK]; rfl) (eq_of_beq o8) (eq_of_beq o9) (.inr (.inr rfl))
    · exact ok_read_tie (said := 28) hK hparse o4 o5 o6 o7 (by rw [hop, hK]; rfl) (eq_of_beq o8) (eq_of_beq o9) (.inr (.inr rfl))

theorem reply_ok (x : Int) : okReply (pairOf x).1 (pairOf x).2 (kindOf' x) = true ∧ (replyS (pairOf x).1 (pairOf x).2 (kindOf' x)).length ≤ 900 ∧ (kindOf' x = 4 → (Txt.slice (replyS (pairOf x).1 (pairOf x).2 (kindOf' x)) none (some 3) == Str.ofString "257") = false) := by
  have h1 := mod6 x
  have h2 : 0 ≤ kindOf' x ∧ kindOf' x < 6 := mod6 (x.fdiv 6)
  have hc := case_ok (i := (x.fmod 6).toNat) (j := (kindOf' x).toNat) (by omega) (by omega)
  have hj : (((kindOf' x).toNat : Nat) : Int) = kindOf' x := by omega
  unfold caseOK at hc
  simp only [hj, Bool.and_eq_true, decide_eq_true_eq] at hc
  have hp : dPairs.getD (x.fmod 6).toNat (0, 0) = pairOf x := rfl
  rw [hp] at hc
  refine ⟨hc.1.1, hc.1.2, fun h4 => ?_⟩
  have := hc.2
  rw [if_pos (show (kindOf' x).toNat = 4 by omega)] at this
  simpa using this
end
theorem filt_true {α : Type} (l : List α) : l.filter (fun _ => true) = l := List.filter_eq_self.mpr fun _ _ => rfl
noncomputable def isTieX (x : Int) : Bool := decide (kindOf' x < 4)
noncomputable def tieOf (x : Int) : Tie := if kindOf' x = 0 then ((pairOf x).1, (pairOf x).2, true) else if kindOf' x = 1 then ((pairOf x).2, (pairOf x).1, true) else ((pairOf x).1, (pairOf x).2, false)
theorem due_tie {x : Int} (h : isTieX x = true) : dueX x = dTie (tieOf x) := by
  have h' : kindOf' x < 4 := by simpa [isTieX] using h
  unfold dueX dueD tieOf
  split
  · rfl
  · split
    · rfl
    · first
      | rfl
      | (rw [if_pos h'])
theorem due_str {x : Int} (h : isTieX x = false) : ∃ z, dueX x = .str z ∧ PyData.strOk z = true := by
  have h' : ¬ kindOf' x < 4 := by simpa [isTieX] using h
  unfold dueX dueD
  rw [if_neg (by omega), if_neg (by omega), if_neg h']
  split
  · exact ⟨_, rfl, by decide +kernel⟩
  · exact ⟨_, rfl, by decide +kernel⟩
theorem due_ok (x : Int) : okD 8 (dueX x) = true := by
  cases h : isTieX x with
  | true => rw [due_tie h]; rfl
  | false =>
    obtain ⟨z, e, hz⟩ := due_str h
    rw [e]; exact hz
theorem isi_due (x : Int) : CallV (.builtin "isinstance") [dueX x, .ptr (.type "tuple")] (.bool (isTieX x)) := by
  cases h : isTieX x with
  | true => rw [due_tie h]; exact CallV.isiT
  | false =>
    obtain ⟨z, e, hz⟩ := due_str h
    rw [e]; exact CallV.isiS
noncomputable def tsOf (dr : List Int) : List Tie := (dr.filter isTieX).map tieOf
theorem ts_out (dr : List Int) : (dr.filter isTieX).map dueX = (tsOf dr).map dTie := by
  rw [tsOf, List.map_map]
  refine List.map_congr_left fun x hx => ?_
  exact due_tie (List.mem_filter.mp hx).2
noncomputable def spOf (ts : List Tie) : List (Int × Int) := ts.map (fun t => (t.1, t.2.1)) ++ ts.map (fun t => (t.2.1, t.1))
noncomputable def psOf (ts : List Tie) : List (Int × Int) := dPairs.filter fun p => decide (p ∈ spOf ts)
noncomputable def filesOf (ts : List Tie) : List (Int × Int) := filesAt ts (psOf ts) (orderAt 4) (orderAt 4).length
noncomputable def cnt (ts : List Tie) (i : Nat) : Int := (levelsR ts).getD i 0
noncomputable def badRow (row : List Int) (t : Tie) : Bool := (row.getD t.1.toNat 0 == row.getD t.2.1.toNat 0) || (t.2.2 && decide (row.getD t.1.toNat 0 > row.getD t.2.1.toNat 0))
structure PlainOK (ts : List Tie) (dr : List Int) : Prop where
  h1 : ((paintAt ts 4).length : Int) = 3 * cnt ts 1 + 3 * cnt ts 2 + cnt ts 3
  h2 : ∀ row ∈ paintAt ts 4, ts.filter (badRow row) = []
  h3 : sumAt (filesOf ts) (filesOf ts).length = cnt ts 4
  h4 : ((filesOf ts).length : Int) = cnt ts 4 - cnt ts 3 + cnt ts 2 - cnt ts 1
  h5 : choicesAt (filesOf ts) (psOf ts) dr 16 = 5 * cnt ts 4 - 4 * cnt ts 3 + 3 * cnt ts 2 - 2 * cnt ts 1
theorem pairOf_mem (x : Int) : pairOf x ∈ dPairs := List.mem_of_getElem? (pair_at x)
theorem dPairs_lt : ∀ p ∈ dPairs, (0 ≤ p.1 ∧ p.1 < 4) ∧ 0 ≤ p.2 ∧ p.2 < 4 := by decide
theorem ts_lt {dr : List Int} : ∀ t ∈ tsOf dr, (0 ≤ t.1 ∧ t.1 < 4) ∧ 0 ≤ t.2.1 ∧ t.2.1 < 4 := by
  intro t ht
  obtain ⟨x, _, rfl⟩ := List.mem_map.mp ht
  obtain ⟨⟨h1, h2⟩, h3, h4⟩ := dPairs_lt _ (pairOf_mem x)
  unfold tieOf
  split
  · exact ⟨⟨h1, h2⟩, h3, h4⟩
  · split
    · exact ⟨⟨h3, h4⟩, h1, h2⟩
    · exact ⟨⟨h1, h2⟩, h3, h4⟩
theorem levels_len (ts : List Tie) : (levelsR ts).length = 5 := by simp [levelsR]
section
variable {c : Cx} (hK : c.K = HK c.w.params)
include hK
theorem ok_law {ns : List Int} (hz : ns.length ≤ 63) (PL : PlainOK (tsOf (drawsAt ns (min ns.length 15))) (drawsAt ns (min ns.length 15))) {A : Around} {s : Shared} {vs : List Value} (ok : c.Ok) (room : Room A 6) (fr : A.frames = some [])
    (hb : ∀ b o, c.b0.get? b = some o → s.heap.get? b = some o) (rep : RepL [] s.heap vs [.lst (ns.map .int)]) :
    codeAny (model c.prog c.w) A (.call (.ref 144) ⟨vs, []⟩) (fun res s' => res = .ok (.ret (.bool true)) ∧ Keeps s s') s := by
  have hdl : (drawsAt ns (min ns.length 15)).length = 5 := drawsAt_len _ _
  refine fn_enterG (n := 5) (F₀ := []) (ds := [.lst (ns.map .int)]) [Str.ofString "script"] (ho := by rw [hK]; rfl) (hcd := by rw [hK]; rfl) ?_ ?_ ?_ ?_ ok room hb (fun _ h => nomatch h) rep (fun env own s₁ f hfr S => ?_)
  · intro vs h
    rcases vs with _ | ⟨v, _ | _⟩ <;> first | rfl | simp at h
  · rfl
  · decide
  · rfl
  · simp only [List.zip_cons_cons, List.zip_nil_right] at S
    have fr1 : (A.deeper env).frames = some [env] := Around.frames_deeper fr
    have hLb : c.b0.get? env.locals = none := by
      cases e : c.b0.get? env.locals with
      | none => rfl
      | some o => have := hb _ _ e; rw [S.fresh _ S.loc] at this; cases this
    have hkind : env.scope.kind ≠ .module := by rw [f.ev.kind]; decide
    refine ex_assign (d := .lst ((drawsAt ns (min ns.length 15)).map .int)) f S (Ev.call (by walk_at "ev") (by rw [hK]; rfl) (by walk_at "ev") (ok_draws hK (by omega)) (by decide)) (by walk_at "upd") (by walk_at "nm") rfl fun s2 S => ?_
    generalize drawsAt ns (min ns.length 15) = dr at PL hdl S ⊢
    refine ex_compX (ρc := []) (items := dr) (emb := D.int) (e := dueX) (ρ' := fun x => [(Str.ofString "x", .int x)]) f S (by walk_at "cap") (by walk_at "ev") Quiet.name (by walk_at "caps") (fun x hx mu => by walk_at "asg") (fun x hx => by walk_at "subl") ?_ (by omega) (by walk_at "upd") rfl rfl rfl (fun s2 S => ?_) (by intro _ _; rfl) (by rfl)
    · intro cenv s2 own' F hcs hce x hx
      by_cases h4 : kindOf' x = 4
      · have hd : dueX x = .str (Str.ofString "refused") := by
          unfold dueX dueD; rw [h4]; rfl
        rw [hd]
        refine EvX.call ok hcs hce f.room (fun mu => by walk_at "ev") (by rw [hK]; rfl) (fun mu => EvL.cons (Ev.call (by walk_at "ev") (by rw [hK]; rfl) (by walk_at "ev") (ok_reply hK (pair_at x) (mod6 x).1 (mod6 x).2 rfl (reply_ok hK x).1) (by decide)) EvL.nil) rfl fun mu g s' vs hn S' rep' => ?_
        obtain ⟨m, o, es, ep, ho, hdt, _⟩ := hn
        exact ok_read_refused hK (reply_ok hK x).2.1 ((reply_ok hK x).2.2 h4) ok (f.room.less (by decide)) fr1 hkind hfr ⟨o, ho, fun vs q => by rw [hdt] at q; cases q⟩ hLb S'.b0 S'.lives rep'
      · exact EvX.of ok hcs hce f.room fun mu => Ev.call (by walk_at "ev") (by rw [hK]; rfl) (EvL.cons (Ev.call (by walk_at "ev") (by rw [hK]; rfl) (by walk_at "ev") (ok_reply hK (pair_at x) (mod6 x).1 (mod6 x).2 rfl (reply_ok hK x).1) (by decide)) EvL.nil) (ok_read_all hK h4) (by decide)
    refine ex_if (b := false) f S (Tr.cmp (d2 := .lst (dr.map dueX)) (by walk_at "ev") (Ev.to (Ev.comp (ρc := []) (by walk_at "cap") rfl (by walk_at "ev") (IterV.lstM Quiet.name) (by walk_at "caps")
        (CompRun.one (items := dr) (emb := D.int) (p := fun _ => true) (e := dueX) (ρ' := fun x => [(Str.ofString "x", .int x)]) (fun x hx mu => by walk_at "asg") (fun x hx => by walk_at "subl") (fun x hx mu => by walk_at "ev")
          (fun x hx _ mu => Ev.call (by walk_at "ev") (by rw [hK]; rfl) (by walk_at "ev") (ok_due hK (pair_at x) (mod6 x).1 (mod6 x).2) (by decide)) (by omega))) (by rw [filt_true])) (CmpV.neRefl (n := 9) (by simp [okD, due_ok]) (by decide))) (fun h => nomatch h) (fun _ s3 S => ex_nil ?_)
    refine ex_comp (ρc := []) (out := (tsOf dr).map dTie) f S (by walk_at "cap") rfl (by walk_at "ev") (IterV.lstM Quiet.name) (by walk_at "caps")
        (by
          rw [← ts_out]
          exact CompRun.one (items := dr) (emb := dueX) (p := isTieX) (e := dueX) (ρ' := fun x => [(Str.ofString "tie", dueX x)]) (fun x hx mu => by walk_at "asg") (fun x hx => by walk_at "subl")
            (fun x hx mu => TrS.one (Tr.plain (Ev.bltc (b := .builtin "isinstance") (ds := [dueX x, .ptr (.type "tuple")]) (Ev.gB hK rfl rfl rfl) (by walk_at "ev") (isi_due x) (.inl ⟨_, rfl⟩) (by simp)) TruV.bool)) (fun x hx _ mu => by walk_at "ev") (by omega))
        (by walk_at "upd") rfl rfl rfl fun s4 S => ?_
    have hts := ts_lt (dr := dr)
    have htl : (tsOf dr).length ≤ 5 := by
      rw [tsOf, List.length_map]
      exact Nat.le_trans (List.length_filter_le _ _) (by omega)
    generalize tsOf dr = ts at PL S hts htl ⊢
    refine ex_assign (d := .lst ((spOf ts).map dPair)) f S (Ev.to (Ev.bin (Ev.comp (ρc := []) (by walk_at "cap") rfl (by walk_at "ev") (IterV.lstM Quiet.tup) (by walk_at "caps")
        (CompRun.one (items := ts) (emb := dTie) (p := fun _ => true) (e := fun t => dPair (t.1, t.2.1)) (ρ' := fun t => [(Str.ofString "low", .int t.1), (Str.ofString "high", .int t.2.1), (Str.ofString "strict", .bool t.2.2)]) (fun x hx mu => by walk_at "asg") (fun x hx => by walk_at "subl") (fun x hx mu => by walk_at "ev")
          (fun x hx _ mu => by walk_at "ev") (by omega)))
      (Ev.comp (ρc := []) (by walk_at "cap") rfl (by walk_at "ev") (IterV.lstM Quiet.tup) (by walk_at "caps")
        (CompRun.one (items := ts) (emb := dTie) (p := fun _ => true) (e := fun t => dPair (t.2.1, t.1)) (ρ' := fun t => [(Str.ofString "low", .int t.1), (Str.ofString "high", .int t.2.1), (Str.ofString "strict", .bool t.2.2)]) (fun x hx mu => by walk_at "asg") (fun x hx => by walk_at "subl") (fun x hx mu => by walk_at "ev")
          (fun x hx _ mu => by walk_at "ev") (by omega))) (BinV.addL (by simp only [filt_true, List.length_map]; omega))) (by simp [spOf, Function.comp_def, filt_true])) (by walk_at "upd") (by walk_at "nm") rfl fun s5 S => ?_
    refine ex_comp (ρc := [(Str.ofString "spoken", .lst ((spOf ts).map dPair))]) (out := (psOf ts).map dPair) f S (by walk_at "cap") rfl (Ev.call0 (by walk_at "ev") (by rw [hK]; rfl) (ok_pairs hK) (by decide)) (IterV.lstM Quiet.name) (by walk_at "caps")
        (CompRun.one (items := dPairs) (emb := dPair) (p := fun p => decide (p ∈ spOf ts)) (e := dPair) (ρ' := fun p => [(Str.ofString "spoken", .lst ((spOf ts).map dPair)), (Str.ofString "pair", dPair p)]) (fun x hx mu => by walk_at "asg") (fun x hx => by walk_at "subl")
          (fun x hx mu => TrS.one (Tr.cmp (by walk_at "ev") (by walk_at "ev") CmpV.inPairs)) (fun x hx _ mu => by walk_at "ev") (by decide))
        (by walk_at "upd") rfl rfl rfl fun s6 S => ?_
    have hpl : (psOf ts).length ≤ 6 := List.length_filter_le _ _
    have hps : ∀ p ∈ psOf ts, (0 ≤ p.1 ∧ p.1 < 4) ∧ 0 ≤ p.2 ∧ p.2 < 4 := fun p hp => dPairs_lt p (List.mem_filter.mp hp).1
    have hts2 : ∀ t ∈ ts, 0 ≤ t.1 ∧ 0 ≤ t.2.1 := fun t ht => ⟨(hts t ht).1.1, (hts t ht).2.1⟩
    refine ex_assign (d := .dct (filesOf ts)) f S (Ev.call (by walk_at "ev") (by rw [hK]; rfl) (by walk_at "ev") (ok_files hK htl hts hpl hps) (by decide)) (by walk_at "upd") (by walk_at "nm") rfl fun s7 S => ?_
    refine ex_assign (d := .lst ((levelsR ts).map .int)) f S (Ev.call (by walk_at "ev") (by rw [hK]; rfl) (by walk_at "ev") (ok_levels hK ts htl hts2) (by decide)) (by walk_at "upd") (by walk_at "nm") rfl fun s8 S => ?_
    refine ex_assign (d := .lst ((paintAt ts 4).map fun r => .lst (r.map .int))) f S (Ev.call (by walk_at "ev") (by rw [hK]; rfl) (by walk_at "ev") (ok_paintings hK htl hts2) (by decide)) (by walk_at "upd") (by walk_at "nm") rfl fun s9 S => ?_
    have hll := levels_len ts
    have hc1 : SubV (.lst ((levelsR ts).map .int)) (.int 1) (.int (cnt ts 1)) := SubV.lst (by decide) (by decide) (getD_int (levelsR ts) 1 (by omega))
    have hc2 : SubV (.lst ((levelsR ts).map .int)) (.int 2) (.int (cnt ts 2)) := SubV.lst (by decide) (by decide) (getD_int (levelsR ts) 2 (by omega))
    have hc3 : SubV (.lst ((levelsR ts).map .int)) (.int 3) (.int (cnt ts 3)) := SubV.lst (by decide) (by decide) (getD_int (levelsR ts) 3 (by omega))
    have hc4 : SubV (.lst ((levelsR ts).map .int)) (.int 4) (.int (cnt ts 4)) := SubV.lst (by decide) (by decide) (getD_int (levelsR ts) 4 (by omega))
    have hfl : (filesOf ts).length ≤ 400 := Nat.le_trans (filesAt_len _ _ _ _) (by rw [show (orderAt 4).length = 24 by decide +kernel]; decide)
    have hpt : ((paintAt ts 4).map fun r : List Int => D.lst (r.map .int)).length ≤ 1000000 := by
      rw [List.length_map]; exact Nat.le_trans (paint_len ts 4) (by decide)
    obtain ⟨p1, p2, p3, p4, p5⟩ := PL
    have hmemp := mem_paint ts 4
    generalize levelsR ts = lv at S hc1 hc2 hc3 hc4 ⊢
    generalize cnt ts 1 = c1 at *
    generalize cnt ts 2 = c2 at *
    generalize cnt ts 3 = c3 at *
    generalize cnt ts 4 = c4 at *
    generalize paintAt ts 4 = pt at *
    generalize filesOf ts = fl at *
    generalize psOf ts = ps at *
    refine ex_if (b := false) f S (Tr.to (Tr.cmp (by walk_at "ev") (by walk_at "ev") (by walk_at "ev")) ?_) (fun h => nomatch h) (fun _ s10 S => ex_nil ?_)
    · rw [List.length_map, p1]; simp
    refine ex_forL (items := pt) (emb := fun r => .lst (r.map .int)) (mu := fun _ => none) (stop := fun _ => False) (dr := fun _ => .none)
      (ρ := fun _ => [(Str.ofString "script", .lst (ns.map .int)), (Str.ofString "draws", .lst (dr.map .int)), (Str.ofString "told", .lst (dr.map dueX)), (Str.ofString "ties", .lst (ts.map dTie)), (Str.ofString "spoken", .lst ((spOf ts).map dPair)), (Str.ofString "pairs", .lst (ps.map dPair)), (Str.ofString "files", .dct fl), (Str.ofString "counts", .lst (lv.map .int)), (Str.ofString "paintings", .lst (pt.map fun r => .lst (r.map .int)))])
      (ρ' := fun i => [(Str.ofString "script", .lst (ns.map .int)), (Str.ofString "draws", .lst (dr.map .int)), (Str.ofString "told", .lst (dr.map dueX)), (Str.ofString "ties", .lst (ts.map dTie)), (Str.ofString "spoken", .lst ((spOf ts).map dPair)), (Str.ofString "pairs", .lst (ps.map dPair)), (Str.ofString "files", .dct fl), (Str.ofString "counts", .lst (lv.map .int)), (Str.ofString "paintings", .lst (pt.map fun r => .lst (r.map .int))), (Str.ofString "row", .lst ((pt.getD i []).map .int))])
      f S (by walk_at "ev") Quiet.name ?_ ?_ ?_ ?_ (by intro v; rfl)
    · intro i r hr
      have e : pt.getD i [] = r := by simp [List.getD, hr]
      rw [e]; walk_at "asg"
    · intro E i r g' F₁ s' hr S
      have e : pt.getD i [] = r := by simp [List.getD, hr]
      rw [e] at S
      have hrm : r ∈ pt := List.mem_of_getElem? hr
      have hr4 := (hmemp r hrm).1
      refine ex_if (b := false) f S (Tr.to (Tr.cmp (Ev.comp (ρc := [(Str.ofString "row", .lst (r.map .int))]) (by walk_at "cap") rfl (by walk_at "ev") (IterV.lstM Quiet.tup) (by walk_at "caps")
          (CompRun.one (items := ts) (emb := dTie) (p := badRow r) (e := fun _ => .int 1) (ρ' := fun t => [(Str.ofString "row", .lst (r.map .int)), (Str.ofString "low", .int t.1), (Str.ofString "high", .int t.2.1), (Str.ofString "strict", .bool t.2.2)]) (fun x hx mu => by walk_at "asg") (fun x hx => by walk_at "subl")
            (fun t ht mu => ?_) (fun x hx _ mu => by walk_at "ev") (by omega))) (by walk_at "ev") (CmpV.neNil (okOnes _))) (by rw [p2 r hrm]; rfl)) (fun h => nomatch h) (fun _ s10 S => ex_nil (ex_nil (S.fewer (by walk_at "subl"))))
      obtain ⟨⟨t1, t2⟩, t3, t4⟩ := hts t ht
      have s1 : SubV (.lst (r.map .int)) (.int t.1) (.int (r.getD t.1.toNat 0)) := SubV.lst t1 (by omega) (getD_int r _ (by omega))
      have s2 : SubV (.lst (r.map .int)) (.int t.2.1) (.int (r.getD t.2.1.toNat 0)) := SubV.lst t3 (by omega) (getD_int r _ (by omega))
      exact TrS.one (Tr.or2 (Tr.cmp (Ev.sub (by walk_at "ev") (by walk_at "ev") s1) (Ev.sub (by walk_at "ev") (by walk_at "ev") s2) (by walk_at "ev")) fun _ => Tr.and2 (by walk_at "ev") fun _ => Tr.cmp (Ev.sub (by walk_at "ev") (by walk_at "ev") s1) (Ev.sub (by walk_at "ev") (by walk_at "ev") s2) (by walk_at "ev"))
    rotate_left
    · intro _ _ _ _ h; exact h.elim
    intro s10 S
    refine ex_if (b := false) f S (Tr.to (Tr.cmp (Ev.call (by walk_at "ev") (by rw [hK]; rfl) (by walk_at "ev") (ok_count hK) (by decide)) (by walk_at "ev") (by walk_at "ev")) (by rw [p3]; simp)) (fun h => nomatch h) (fun _ s11 S => ex_nil ?_)
    refine ex_if (b := false) f S (Tr.to (Tr.cmp (Ev.bltc (b := .builtin "len") (ds := [.dct fl]) (r := .int (fl.length : Int)) (Ev.gB hK rfl rfl rfl) (by walk_at "ev") (CallV.lenD (by omega)) (.inl ⟨_, rfl⟩) (by simp)) (by walk_at "ev") (by walk_at "ev")) (by rw [p4]; simp)) (fun h => nomatch h) (fun _ s12 S => ex_nil ?_)
    refine ex_if (b := false) f S (Tr.to (Tr.cmp (Ev.comp (ρc := []) (by walk_at "cap") rfl (Ev.to (d := .lst ((dr.take 4).map .int)) (Ev.sliceL (k := 4) (by walk_at "ev") (by walk_at "ev") (by rw [List.length_map]; omega) (by rw [List.length_map]; omega)) (by rw [List.map_take])) (IterV.lstM Quiet.name) (by walk_at "caps")
        (CompRun.one (items := dr.take 4) (emb := D.int) (p := fun x => !decide (x.fmod 256 < 256)) (e := D.int) (ρ' := fun x => [(Str.ofString "draw", .int x)]) (fun x hx mu => by walk_at "asg") (fun x hx => by walk_at "subl")
          (fun x hx mu => TrS.one (Tr.not (Tr.plain (Ev.call (by walk_at "ev") (by rw [hK]; rfl) (by walk_at "ev") (ok_isterm hK) (by decide)) TruV.bool))) (fun x hx _ mu => by walk_at "ev") (by simp; omega))) (by walk_at "ev") (CmpV.neNil (okInts9 _))) ?_) (fun h => nomatch h) (fun _ s13 S => ex_nil ?_)
    · have e : (dr.take 4).filter (fun x => !decide (x.fmod 256 < 256)) = [] := List.filter_eq_nil_iff.mpr fun x _ => by
        have : x.fmod 256 < 256 := by rw [Int.fmod_eq_emod_of_nonneg _ (by decide)]; omega
        simp [this]
      rw [e]; rfl
    refine ex_ret (d := .bool true) f S (Ev.to (Ev.cmp (Ev.call (by walk_at "ev") (by rw [hK]; rfl) (by walk_at "ev") (ok_choices hK hfl hpl hps (by omega)) (by decide)) (by walk_at "ev") (by walk_at "ev")) (by rw [p5]; simp)) fun v s' S' r => ?_
    cases r
    exact ⟨rfl, kpOf S'.same S'.keep⟩
end
noncomputable def okT (t : Tie) (r : List Int) : Bool := !badRow r t
noncomputable def okA (ts : List Tie) (r : List Int) : Bool := ts.all fun t => okT t r
noncomputable def full (i : Nat) : List (List Int) := paintAt [] i
theorem full_succ (i : Nat) : full (i + 1) = (full i).flatMap fun row => light3.map fun l => row ++ [l] := by
  show paintAt [] (i + 1) = _
  rw [paintAt]
  rfl
noncomputable def pre (ts : List Tie) (r : List Int) : Bool := (List.range r.length).all fun k => shows ts (r.take (k + 1))
theorem pre_snoc (ts : List Tie) (r : List Int) (l : Int) : pre ts (r ++ [l]) = (pre ts r && shows ts (r ++ [l])) := by
  unfold pre
  rw [List.length_append, List.length_singleton, List.range_succ, List.all_append]
  congr 1
  · refine Bool.eq_iff_iff.mpr ?_
    simp only [List.all_eq_true, List.mem_range]
    constructor
    · intro h k hk
      have := h k hk
      rwa [List.take_append_of_le_length (by omega)] at this
    · intro h k hk
      rw [List.take_append_of_le_length (by omega)]
      exact h k hk
  · simp only [List.all_cons, List.all_nil, Bool.and_true]
    rw [List.take_of_length_le (by simp)]
theorem flatMap_filter {α β : Type} (p : α → Bool) (g : α → List β) : ∀ l : List α, (l.filter p).flatMap g = l.flatMap fun a => if p a then g a else []
  | [] => rfl
  | a :: l => by
    rw [List.filter_cons, List.flatMap_cons]
    cases h : p a <;> simp [flatMap_filter p g l]
theorem filter_flatMap' {α β : Type} (p : β → Bool) (g : α → List β) : ∀ l : List α, (l.flatMap g).filter p = l.flatMap fun a => (g a).filter p
  | [] => rfl
  | a :: l => by rw [List.flatMap_cons, List.flatMap_cons, List.filter_append, filter_flatMap' p g l]
theorem filter_map' {α β : Type} (p : β → Bool) (g : α → β) : ∀ l : List α, (l.map g).filter p = (l.filter fun a => p (g a)).map g
  | [] => rfl
  | a :: l => by
    rw [List.map_cons, List.filter_cons, List.filter_cons]
    cases p (g a) <;> simp [filter_map' p g l]
theorem paint_filter (ts : List Tie) : ∀ i, paintAt ts i = (full i).filter (pre ts)
  | 0 => rfl
  | i + 1 => by
    rw [paintAt, paint_filter ts i, full_succ, filter_flatMap', flatMap_filter]
    congr 1
    funext row
    rw [filter_map']
    cases h : pre ts row with
    | true => simp only [if_true, pre_snoc, h, Bool.true_and]
    | false => simp [pre_snoc, h]
theorem hue_ok : ([0, 1, 2].all fun a : Int => [0, 1, 2].all fun b : Int => [true, false].all fun st => badHue st ((huesF.getD a.toNat []).getD b.toNat 0) == ((a == b) || (st && decide (a > b)))) = true := by decide +kernel
theorem mem012 {a : Int} (h : 0 ≤ a ∧ a < 3) : a ∈ ([0, 1, 2] : List Int) := by
  simp only [List.mem_cons, List.not_mem_nil, or_false]; omega
theorem bad_hue {a b : Int} (ha : 0 ≤ a ∧ a < 3) (hb : 0 ≤ b ∧ b < 3) (st : Bool) : badHue st ((huesF.getD a.toNat []).getD b.toNat 0) = ((a == b) || (st && decide (a > b))) := by
  have h1 := List.all_eq_true.mp hue_ok a (mem012 ha)
  have h2 := List.all_eq_true.mp h1 b (mem012 hb)
  have h3 := List.all_eq_true.mp h2 st (by cases st <;> simp)
  exact eq_of_beq h3
theorem getD_mem {r : List Int} {i : Nat} (h : i < r.length) : r.getD i 0 ∈ r := by
  rw [List.getD_eq_getElem?_getD, List.getElem?_eq_getElem h]; exact List.getElem_mem h
theorem getD_take {r : List Int} {i k : Nat} (h : i < k) : (r.take k).getD i 0 = r.getD i 0 := by
  rw [List.getD_eq_getElem?_getD, List.getD_eq_getElem?_getD, List.getElem?_take_of_lt h]
theorem bad_take {r : List Int} {t : Tie} {k : Nat} (hr : r.length = 4) (hr2 : ∀ x ∈ r, 0 ≤ x ∧ x < 3) (hk : k < 4) (ht : (0 ≤ t.1 ∧ t.1 < 4) ∧ 0 ≤ t.2.1 ∧ t.2.1 < 4) :
    badTie huesF (r.take (k + 1)) t = (decide ((max t.1.toNat t.2.1.toNat) = k) && badRow r t) := by
  have hl : (r.take (k + 1)).length = k + 1 := by rw [List.length_take]; omega
  unfold badTie
  rw [hl]
  by_cases h : max t.1.toNat t.2.1.toNat = k
  · have e1 : ((if t.2.1 > t.1 then t.2.1 else t.1) == ((k + 1 : Nat) : Int) - 1) = true := by
      rw [beq_iff_eq]; split <;> omega
    rw [e1, decide_eq_true h, Bool.true_and, Bool.true_and]
    unfold hueAt badRow
    rw [getD_take (by omega), getD_take (by omega)]
    exact bad_hue (hr2 _ (getD_mem (by omega))) (hr2 _ (getD_mem (by omega))) _
  · have e1 : ((if t.2.1 > t.1 then t.2.1 else t.1) == ((k + 1 : Nat) : Int) - 1) = false := by
      rw [beq_eq_false_iff_ne]; split <;> omega
    rw [e1, decide_eq_false h]; rfl
theorem pre_ok {ts : List Tie} {r : List Int} (hts : ∀ t ∈ ts, (0 ≤ t.1 ∧ t.1 < 4) ∧ 0 ≤ t.2.1 ∧ t.2.1 < 4) (hr : r.length = 4) (hr2 : ∀ x ∈ r, 0 ≤ x ∧ x < 3) : pre ts r = okA ts r := by
  refine Bool.eq_iff_iff.mpr ?_
  unfold pre okA
  simp only [List.all_eq_true, List.mem_range, hr, shows, Bool.not_eq_true', okT, List.any_eq_false]
  constructor
  · intro h t ht
    have hb := hts t ht
    have := h (max t.1.toNat t.2.1.toNat) (by omega) t ht
    rw [bad_take hr hr2 (by omega) hb] at this
    simpa using this
  · intro h k hk t ht
    rw [bad_take hr hr2 hk (hts t ht), h t ht]
    simp
theorem paint_ok {ts : List Tie} (hts : ∀ t ∈ ts, (0 ≤ t.1 ∧ t.1 < 4) ∧ 0 ≤ t.2.1 ∧ t.2.1 < 4) : paintAt ts 4 = (full 4).filter (okA ts) := by
  rw [paint_filter]
  refine List.filter_congr fun r hr => ?_
  have := mem_paint [] 4 r hr
  exact pre_ok hts this.1 this.2
theorem plain2 {ts : List Tie} (hts : ∀ t ∈ ts, (0 ≤ t.1 ∧ t.1 < 4) ∧ 0 ≤ t.2.1 ∧ t.2.1 < 4) : ∀ row ∈ paintAt ts 4, ts.filter (badRow row) = [] := by
  intro row hrow
  rw [paint_ok hts] at hrow
  have h := (List.mem_filter.mp hrow).2
  refine List.filter_eq_nil_iff.mpr fun t ht => ?_
  have := List.all_eq_true.mp h t ht
  simpa [okT] using this
-- chains
noncomputable def subOk (cr lo : Int) : Bool := Builtin.bitAnd lo cr == lo
noncomputable def chAt (ok : Int → Int → Bool) : Nat → List (List (List Int))
  | 0 => [[[]]]
  | i + 1 => chAt ok i ++ [((List.range (i + 1)).filter fun j : Nat => subOk (1 + (i : Int)) (1 + (j : Int)) && ok (1 + (i : Int)) (1 + (j : Int))).flatMap fun j : Nat => ((chAt ok i).getD ((1 + (i : Int)) - (1 + (j : Int))).toNat []).map ((1 + (j : Int)) :: ·)]
theorem chAt_len (ok : Int → Int → Bool) : ∀ i, (chAt ok i).length = i + 1
  | 0 => rfl
  | i + 1 => by rw [chAt, List.length_append, chAt_len ok i]; rfl
noncomputable def val (c : List Int) : Int := 100 ^ c.length
noncomputable def tot (cs : List (List Int)) : Int := (cs.map val).sum
theorem tot_append (a b : List (List Int)) : tot (a ++ b) = tot a + tot b := by simp [tot]
theorem tot_cons (x : Int) (cs : List (List Int)) : tot (cs.map (x :: ·)) = 100 * tot cs := by
  induction cs with
  | nil => rfl
  | cons c cs ih =>
    have e : ∀ (c : List Int) (cs : List (List Int)), tot (c :: cs) = val c + tot cs := fun c cs => by simp [tot]
    rw [List.map_cons, e, ih, e, Int.mul_add]
    congr 1
    show (100 : Int) ^ (c.length + 1) = 100 * 100 ^ c.length
    rw [Int.pow_succ, Int.mul_comm]
noncomputable def okW (ts : List Tie) (cr lo : Int) : Bool := (ts.filter (wrongB cr lo)).isEmpty
theorem found_ok (ts : List Tie) (ways : List Int) (g : Nat → List (List Int)) (cr : Int) (hg : ∀ j : Nat, ways.getD (cr - (1 + (j : Int))).toNat 0 = tot (g j)) : ∀ n : Nat,
    100 * foundAt ts ways cr n = tot (((List.range n).filter fun j : Nat => subOk cr (1 + (j : Int)) && okW ts cr (1 + (j : Int))).flatMap fun j : Nat => (g j).map ((1 + (j : Int)) :: ·))
  | 0 => rfl
  | n + 1 => by
    rw [foundAt, stepF, List.range_succ, List.filter_append, List.flatMap_append, tot_append, ← found_ok ts ways g cr hg n]
    have hc : (Builtin.bitAnd (1 + (n : Int)) cr == 1 + (n : Int) && (ts.filter (wrongB cr (1 + (n : Int)))).isEmpty) = (subOk cr (1 + (n : Int)) && okW ts cr (1 + (n : Int))) := rfl
    rw [hc]
    cases h : (subOk cr (1 + (n : Int)) && okW ts cr (1 + (n : Int))) with
    | true =>
      rw [List.filter_cons_of_pos (by exact h)]
      simp only [if_true, List.filter_nil, List.flatMap_cons, List.flatMap_nil, List.append_nil]
      rw [tot_cons, hg n, Int.mul_add]
    | false =>
      rw [List.filter_cons_of_neg (by simp [h])]
      simp [tot]
theorem getD_map_tot (l : List (List (List Int))) (i : Nat) (h : i < l.length) : (l.map tot).getD i 0 = tot (l.getD i []) := by
  rw [List.getD_eq_getElem?_getD, List.getD_eq_getElem?_getD, List.getElem?_map, List.getElem?_eq_getElem h]; rfl
theorem ways_ok (ts : List Tie) : ∀ i, waysAt ts i = (chAt (okW ts) i).map tot
  | 0 => rfl
  | i + 1 => by
    rw [waysAt, chAt, List.map_append, ways_ok ts i, List.map_cons, List.map_nil]
    congr 2
    refine found_ok ts _ (fun j => (chAt (okW ts) i).getD ((1 + (i : Int)) - (1 + (j : Int))).toNat []) _ (fun j => ?_) (i + 1)
    refine getD_map_tot _ _ ?_
    rw [chAt_len]; omega
noncomputable def okCh (ok : Int → Int → Bool) (S : Int) : List Int → Bool
  | [] => true
  | lo :: c => ok S lo && okCh ok (S - lo) c
noncomputable def chAll : Nat → List (List (List Int)) := chAt fun _ _ => true
theorem ch_filter (ok : Int → Int → Bool) : ∀ i, ∀ s, s ≤ i → (chAt ok i).getD s [] = ((chAll i).getD s []).filter (okCh ok (s : Int))
  | 0, s, hs => by
    have : s = 0 := by omega
    subst this; rfl
  | i + 1, s, hs => by
    show (chAt ok (i + 1)).getD s [] = ((chAt (fun _ _ => true) (i + 1)).getD s []).filter (okCh ok (s : Int))
    rw [chAt, chAt]
    by_cases h : s ≤ i
    · rw [List.getD_eq_getElem?_getD, List.getD_eq_getElem?_getD, List.getElem?_append_left (by rw [chAt_len]; omega), List.getElem?_append_left (by rw [chAt_len]; omega), ← List.getD_eq_getElem?_getD, ← List.getD_eq_getElem?_getD]
      exact ch_filter ok i s h
    · have hs' : s = i + 1 := by omega
      subst hs'
      rw [List.getD_eq_getElem?_getD, List.getD_eq_getElem?_getD, List.getElem?_append_right (by rw [chAt_len]; omega), List.getElem?_append_right (by rw [chAt_len]; omega), chAt_len, chAt_len]
      simp only [Nat.sub_self, List.getElem?_cons_zero, Option.getD_some, Bool.and_true]
      rw [filter_flatMap']
      have key : ∀ l : List Nat, (∀ j ∈ l, j < i + 1) → (l.filter fun j : Nat => subOk (1 + (i : Int)) (1 + (j : Int)) && ok (1 + (i : Int)) (1 + (j : Int))).flatMap (fun j : Nat => ((chAt ok i).getD ((1 + (i : Int)) - (1 + (j : Int))).toNat []).map ((1 + (j : Int)) :: ·)) =
          (l.filter fun j : Nat => subOk (1 + (i : Int)) (1 + (j : Int))).flatMap (fun j : Nat => (((chAt (fun _ _ => true) i).getD ((1 + (i : Int)) - (1 + (j : Int))).toNat []).map ((1 + (j : Int)) :: ·)).filter (okCh ok ((i + 1 : Nat) : Int))) := by
        intro l
        induction l with
        | nil => intro _; rfl
        | cons j l ih =>
          intro hl
          have ih' := ih fun a m => hl a (.tail _ m)
          have hj : j < i + 1 := hl j (.head _)
          have hS : ((i + 1 : Nat) : Int) = 1 + (i : Int) := by omega
          have hsub : (((1 + (i : Int)) - (1 + (j : Int))).toNat : Int) = (1 + (i : Int)) - (1 + (j : Int)) := by omega
          have hrec := ch_filter ok i ((1 + (i : Int)) - (1 + (j : Int))).toNat (by omega)
          cases h1 : subOk (1 + (i : Int)) (1 + (j : Int)) with
          | false =>
            rw [List.filter_cons_of_neg (by simp [h1]), List.filter_cons_of_neg (by simp [h1])]
            exact ih'
          | true =>
            rw [List.filter_cons_of_pos (p := fun j : Nat => subOk (1 + (i : Int)) (1 + (j : Int))) (by exact h1), List.flatMap_cons, filter_map', hS]
            simp only [okCh]
            cases h2 : ok (1 + (i : Int)) (1 + (j : Int)) with
            | false =>
              rw [List.filter_cons_of_neg (by simp [h1, h2]), ih', hS]
              simp
            | true =>
              rw [List.filter_cons_of_pos (by simp [h1, h2]), List.flatMap_cons, ih', hS, hrec, hsub]
              simp [chAll]
      exact key (List.range (i + 1)) fun j hj => by simpa using hj
noncomputable def C15 : List (List Int) := (chAll 15).getD 15 []
noncomputable def lvl (c : List Int) : List Int := [0, 1, 2, 3].map fun e : Nat => ((c.findIdx fun lo => Builtin.bitAnd (lo.fdiv (2 ^ e)) 1 != 0 : Nat) : Int)
noncomputable def allT : List Tie := dPairs.flatMap fun p => [(p.1, p.2, true), (p.2, p.1, true), (p.1, p.2, false)]
noncomputable def XL' (j : Nat) : List (List Int) := (C15.filter fun c => c.length == j).map lvl
theorem ch_tie : (allT.all fun t => C15.all fun c => okCh (fun cr lo => !wrongB cr lo t) 15 c == okT t (lvl c)) = true := by decide +kernel
theorem ch_len : (C15.all fun c => decide (1 ≤ c.length) && decide (c.length ≤ 4)) = true := by decide +kernel
theorem ch_num : ((C15.filter fun c => c.length == 1).length = 1 ∧ (C15.filter fun c => c.length == 2).length = 14) ∧ (C15.filter fun c => c.length == 3).length = 36 ∧ (C15.filter fun c => c.length == 4).length = 24 := by decide +kernel
theorem tie_mem (x : Int) : tieOf x ∈ allT := by
  refine List.mem_flatMap.mpr ⟨pairOf x, pairOf_mem x, ?_⟩
  unfold tieOf
  split
  · exact .head _
  · split
    · exact .tail _ (.head _)
    · exact .tail _ (.tail _ (.head _))
theorem ts_mem (dr : List Int) : ∀ t ∈ tsOf dr, t ∈ allT := by
  intro t ht
  obtain ⟨x, _, rfl⟩ := List.mem_map.mp ht
  exact tie_mem x
theorem okCh_all (ts : List Tie) : ∀ (c : List Int) (S : Int), okCh (okW ts) S c = ts.all fun t => okCh (fun cr lo => !wrongB cr lo t) S c
  | [], S => by simp [okCh]
  | lo :: c, S => by
    have e : okW ts S lo = ts.all fun t => !wrongB S lo t := by
      refine Bool.eq_iff_iff.mpr ?_
      unfold okW
      rw [List.isEmpty_iff, List.filter_eq_nil_iff, List.all_eq_true]
      simp
    simp only [okCh]
    rw [okCh_all ts c, e]
    refine Bool.eq_iff_iff.mpr ?_
    simp only [Bool.and_eq_true, List.all_eq_true]
    exact ⟨fun ⟨a, b⟩ t ht => ⟨a t ht, b t ht⟩, fun h => ⟨fun t ht => (h t ht).1, fun t ht => (h t ht).2⟩⟩
theorem ch_ok {ts : List Tie} (hts : ∀ t ∈ ts, t ∈ allT) {c : List Int} (hc : c ∈ C15) : okCh (okW ts) 15 c = okA ts (lvl c) := by
  rw [okCh_all, okA]
  refine Bool.eq_iff_iff.mpr ?_
  simp only [List.all_eq_true]
  have key : ∀ t ∈ ts, okCh (fun cr lo => !wrongB cr lo t) 15 c = okT t (lvl c) := fun t ht => eq_of_beq (List.all_eq_true.mp (List.all_eq_true.mp ch_tie t (hts t ht)) c hc)
  exact ⟨fun h t ht => by rw [← key t ht]; exact h t ht, fun h t ht => by rw [key t ht]; exact h t ht⟩
theorem tot_count : ∀ l : List (List Int), (∀ c ∈ l, 1 ≤ c.length ∧ c.length ≤ 4) → tot l = 100 * ((l.filter fun c => c.length == 1).length : Int) + 10000 * ((l.filter fun c => c.length == 2).length : Int) + 1000000 * ((l.filter fun c => c.length == 3).length : Int) + 100000000 * ((l.filter fun c => c.length == 4).length : Int)
  | [], _ => rfl
  | c :: l, h => by
    have ih := tot_count l fun c m => h c (.tail _ m)
    obtain ⟨h1, h2⟩ := h c (.head _)
    have e : tot (c :: l) = val c + tot l := by simp [tot]
    rw [e, ih, val]
    have hc : c.length = 1 ∨ c.length = 2 ∨ c.length = 3 ∨ c.length = 4 := by omega
    rcases hc with h | h | h | h <;> (simp only [List.filter_cons, h]; simp; omega)
noncomputable def num (ts : List Tie) (j : Nat) : Nat := ((XL' j).filter (okA ts)).length
theorem num_eq {ts : List Tie} (hts : ∀ t ∈ ts, t ∈ allT) (j : Nat) : ((C15.filter (okCh (okW ts) 15)).filter fun c => c.length == j).length = num ts j := by
  unfold num XL'
  rw [filter_map', List.length_map, List.filter_filter, List.filter_filter]
  congr 1
  refine List.filter_congr fun c hc => ?_
  rw [ch_ok hts hc, Bool.and_comm]
theorem num_le (ts : List Tie) (j : Nat) : num ts j ≤ (C15.filter fun c => c.length == j).length := by
  unfold num XL'
  exact Nat.le_trans (List.length_filter_le _ _) (by rw [List.length_map]; exact Nat.le_refl _)
theorem ways15 {ts : List Tie} (hts : ∀ t ∈ ts, t ∈ allT) : (waysAt ts 15).getD 15 0 = 100 * (num ts 1 : Int) + 10000 * (num ts 2 : Int) + 1000000 * (num ts 3 : Int) + 100000000 * (num ts 4 : Int) := by
  rw [ways_ok, getD_map_tot _ _ (by rw [chAt_len]; decide), ch_filter (okW ts) 15 15 (Nat.le_refl _)]
  show tot (C15.filter (okCh (okW ts) 15)) = _
  rw [tot_count _ fun c hc => ?_, num_eq hts, num_eq hts, num_eq hts, num_eq hts]
  have := List.all_eq_true.mp ch_len c (List.mem_filter.mp hc).1
  simpa using this
theorem cnt_num {ts : List Tie} (hts : ∀ t ∈ ts, t ∈ allT) : cnt ts 1 = num ts 1 ∧ cnt ts 2 = num ts 2 ∧ cnt ts 3 = num ts 3 ∧ cnt ts 4 = num ts 4 := by
  obtain ⟨⟨b1, b2⟩, b3, b4⟩ := ch_num
  have n1 := num_le ts 1
  have n2 := num_le ts 2
  have n3 := num_le ts 3
  have n4 := num_le ts 4
  have e : ∀ j, j < 5 → cnt ts j = (((waysAt ts 15).getD 15 0).fdiv (100 ^ j)).fmod 100 := fun j hj => by
    unfold cnt levelsR
    generalize (waysAt ts 15).getD 15 0 = V
    rw [List.getD_eq_getElem?_getD, List.getElem?_map, List.getElem?_range hj]; rfl
  rw [e 1 (by decide), e 2 (by decide), e 3 (by decide), e 4 (by decide), ways15 hts]
  have f : ∀ (a b : Int), 0 ≤ b → a.fdiv b = a / b := fun a b h => Int.fdiv_eq_ediv_of_nonneg a h
  have m : ∀ a : Int, a.fmod 100 = a % 100 := fun a => Int.fmod_eq_emod_of_nonneg a (by decide)
  rw [m, m, m, m, f _ _ (by decide), f _ _ (by decide), f _ _ (by decide), f _ _ (by decide)]
  have p1 : (100 : Int) ^ 1 = 100 := rfl
  have p2 : (100 : Int) ^ 2 = 10000 := rfl
  have p3 : (100 : Int) ^ 3 = 1000000 := rfl
  have p4 : (100 : Int) ^ 4 = 100000000 := rfl
  rw [p1, p2, p3, p4]
  refine ⟨?_, ?_, ?_, ?_⟩ <;> omega
noncomputable def norm (r : List Int) : List Int := r.map fun x => (((r.eraseDups).filter fun y => decide (y < x)).length : Int)
theorem full_norm : (allT.all fun t => (full 4).all fun r => okT t r == okT t (norm r)) = true := by decide +kernel
theorem full_perm : ((full 4).map norm).isPerm (XL' 1 ++ XL' 1 ++ XL' 1 ++ (XL' 2 ++ XL' 2 ++ XL' 2) ++ XL' 3) = true := by decide +kernel
theorem order_perm : (orderAt 4).isPerm (XL' 4) = true := by decide +kernel
theorem order_tie : (allT.all fun t => (orderAt 4).all fun o => (!wrongO o t) == okT t o) = true := by decide +kernel
theorem len_perm {l l' : List (List Int)} (h : l.isPerm l' = true) (p : List Int → Bool) : (l.filter p).length = (l'.filter p).length := ((List.isPerm_iff.mp h).filter p).length_eq
theorem plain1 {ts : List Tie} (hts : ∀ t ∈ ts, t ∈ allT) (hlt : ∀ t ∈ ts, (0 ≤ t.1 ∧ t.1 < 4) ∧ 0 ≤ t.2.1 ∧ t.2.1 < 4) : (paintAt ts 4).length = 3 * num ts 1 + 3 * num ts 2 + num ts 3 := by
  rw [paint_ok hlt]
  have e : (full 4).filter (okA ts) = (full 4).filter fun r => okA ts (norm r) := by
    refine List.filter_congr fun r hr => ?_
    unfold okA
    refine Bool.eq_iff_iff.mpr ?_
    simp only [List.all_eq_true]
    have key : ∀ t ∈ ts, okT t r = okT t (norm r) := fun t ht => eq_of_beq (List.all_eq_true.mp (List.all_eq_true.mp full_norm t (hts t ht)) r hr)
    exact ⟨fun h t ht => by rw [← key t ht]; exact h t ht, fun h t ht => by rw [key t ht]; exact h t ht⟩
  rw [e]
  have e2 : ((full 4).filter fun r => okA ts (norm r)).length = (((full 4).map norm).filter (okA ts)).length := by rw [filter_map', List.length_map]
  rw [e2, len_perm full_perm]
  simp only [List.filter_append, List.length_append, num]
  omega
theorem keep_ok {ts : List Tie} (hts : ∀ t ∈ ts, t ∈ allT) {o : List Int} (ho : o ∈ orderAt 4) : keepO ts o = okA ts o := by
  unfold keepO okA
  refine Bool.eq_iff_iff.mpr ?_
  rw [List.isEmpty_iff, List.filter_eq_nil_iff, List.all_eq_true]
  have key : ∀ t ∈ ts, (!wrongO o t) = okT t o := fun t ht => eq_of_beq (List.all_eq_true.mp (List.all_eq_true.mp order_tie t (hts t ht)) o ho)
  exact ⟨fun h t ht => by rw [← key t ht]; simpa using h t ht, fun h t ht => by have := h t ht; rw [← key t ht] at this; simpa using this⟩
-- the dict of masks
theorem storedI_fresh {kvs : List (Int × Int)} {k : Int} (h : k ∉ kvs.map (·.1)) (x : Int) : storedI kvs k x = kvs ++ [(k, x)] := by
  unfold storedI
  rw [if_neg]
  intro q
  obtain ⟨p, hp, e⟩ := List.any_eq_true.mp q
  exact h (List.mem_map.mpr ⟨p, hp, by simpa using e⟩)
theorem copy_ok {kvs : List (Int × Int)} (hn : (kvs.map (·.1)).Nodup) : ∀ i, i ≤ kvs.length → copyAt kvs i = kvs.take i
  | 0, _ => rfl
  | i + 1, h => by
    have hi : i < kvs.length := h
    rw [copyAt, copy_ok hn i (Nat.le_of_lt hi), List.take_add_one, List.getElem?_eq_getElem hi, List.getD_eq_getElem?_getD, List.getElem?_eq_getElem hi]
    simp only [Option.getD_some, Option.toList_some]
    refine storedI_fresh ?_ _
    intro q
    have h2 : kvs.map (·.1) = (kvs.take i).map (·.1) ++ (kvs.drop i).map (·.1) := by rw [← List.map_append, List.take_append_drop]
    have h3 := hn
    rw [h2] at h3
    exact (List.nodup_append.mp h3).2.2 _ q kvs[i].1 (by rw [List.drop_eq_getElem_cons hi, List.map_cons]; exact List.mem_cons_self) rfl
theorem look_none {kvs : List (Int × Int)} {k : Int} (h : k ∉ kvs.map (·.1)) : lookI kvs k = none := by
  unfold lookI
  rw [List.find?_eq_none.mpr]
  · rfl
  · intro p hp q
    exact h (List.mem_map.mpr ⟨p, hp, by simpa using q⟩)
theorem look_some {kvs : List (Int × Int)} {k : Int} (h : k ∈ kvs.map (·.1)) : ∃ v, lookI kvs k = some v := by
  obtain ⟨p, hp, e⟩ := List.mem_map.mp h
  unfold lookI
  cases q : kvs.find? fun kv => kv.1 = k with
  | some w => exact ⟨_, rfl⟩
  | none =>
    have := List.find?_eq_none.mp q p hp
    simp [e] at this
theorem bump_sum {m : Int} : ∀ {acc : List (Int × Int)} {v : Int}, (acc.map (·.1)).Nodup → lookI acc m = some v → ((acc.map fun kv => if kv.1 = m then (kv.1, v + 1) else kv).map (·.2)).sum = (acc.map (·.2)).sum + 1
  | [], v, _, h => by simp [lookI] at h
  | (k, x) :: r, v, hn, h => by
    rw [List.map_cons, List.nodup_cons] at hn
    by_cases e : k = m
    · subst e
      have hv : x = v := by simpa [lookI] using h
      subst hv
      have hid : (r.map fun kv => if kv.1 = k then (kv.1, x + 1) else kv) = r := by
        have : r.map (fun kv => if kv.1 = k then (kv.1, x + 1) else kv) = r.map id := List.map_congr_left fun p hp => by
          rw [if_neg fun q => hn.1 (List.mem_map.mpr ⟨p, hp, q⟩)]; rfl
        rw [this, List.map_id]
      simp only [List.map_cons, if_pos, List.sum_cons, hid]
      omega
    · have h' : lookI r m = some v := by simpa [lookI, e] using h
      have ih := bump_sum hn.2 h'
      simp only [List.map_cons, List.sum_cons, if_neg e, ih]
      omega
structure DInv (acc : List (Int × Int)) (ms : List Int) : Prop where
  nodup : (acc.map (·.1)).Nodup
  mem : ∀ k, k ∈ acc.map (·.1) ↔ k ∈ ms
  sum : (acc.map (·.2)).sum = ms.length
theorem DInv.bump {acc : List (Int × Int)} {ms : List Int} (I : DInv acc ms) (m : Int) : DInv (addOne acc m 1) (ms ++ [m]) := by
  unfold addOne
  by_cases h : m ∈ acc.map (·.1)
  · obtain ⟨v, hv⟩ := look_some h
    rw [if_pos (by rw [hv]; rfl), hv]
    have hst : storedI acc m ((some v).getD 0 + 1) = acc.map fun kv => if kv.1 = m then (kv.1, v + 1) else kv := by
      unfold storedI
      rw [if_pos]
      · rfl
      · obtain ⟨p, hp, e⟩ := List.mem_map.mp h
        exact List.any_eq_true.mpr ⟨p, hp, by simpa using e⟩
    rw [hst]
    have hk : (acc.map fun kv => if kv.1 = m then (kv.1, v + 1) else kv).map (·.1) = acc.map (·.1) := by
      rw [List.map_map]
      refine List.map_congr_left fun p _ => ?_
      show (if p.1 = m then (p.1, v + 1) else p).1 = p.1
      split <;> rfl
    refine ⟨by rw [hk]; exact I.nodup, fun k => ?_, ?_⟩
    · rw [hk, I.mem, List.mem_append, List.mem_singleton]
      exact ⟨.inl, fun q => q.elim id fun e => by rw [e]; exact (I.mem m).mp h⟩
    · rw [bump_sum I.nodup hv, I.sum]; simp
  · rw [if_neg (by rw [look_none h]; simp), storedI_fresh h]
    refine ⟨?_, fun k => ?_, ?_⟩
    · rw [List.map_append]
      refine List.nodup_append.mpr ⟨I.nodup, by simp, fun a ha b hb e => ?_⟩
      have : b = m := by simpa using hb
      exact h (by rw [← this, ← e]; exact ha)
    · rw [List.map_append, List.mem_append, List.mem_append, I.mem]; simp
    · rw [List.map_append, List.sum_append, I.sum]; simp
theorem files_inv (ts : List Tie) (ps : List (Int × Int)) (os : List (List Int)) : ∀ i, i ≤ os.length → DInv (filesAt ts ps os i) (((os.take i).filter (keepO ts)).map (maskOf ps))
  | 0, _ => ⟨.nil, fun k => Iff.rfl, rfl⟩
  | i + 1, h => by
    have hi : i < os.length := h
    have I := files_inv ts ps os i (Nat.le_of_lt hi)
    have e : os.getD i [] = os[i] := by rw [List.getD_eq_getElem?_getD, List.getElem?_eq_getElem hi]; rfl
    rw [filesAt, e, List.take_add_one, List.getElem?_eq_getElem hi, List.filter_append]
    simp only [Option.toList_some]
    cases hk : keepO ts os[i] with
    | true =>
      rw [if_pos rfl, List.filter_cons_of_pos (by exact hk), List.filter_nil, List.map_append]
      have e2 : addAt (filesAt ts ps os i) [(maskOf ps os[i], 1)] 1 = addOne (filesAt ts ps os i) (maskOf ps os[i]) 1 := by
        show addOne (copyAt (filesAt ts ps os i) (filesAt ts ps os i).length) _ _ = _
        rw [copy_ok I.nodup _ (Nat.le_refl _), List.take_length]; rfl
      rw [e2]
      exact I.bump _
    | false =>
      rw [if_neg (by simp), List.filter_cons_of_neg (by simp [hk]), List.filter_nil, List.append_nil]
      exact I
theorem sumAt_eq (kvs : List (Int × Int)) : ∀ i, i ≤ kvs.length → sumAt kvs i = ((kvs.take i).map (·.2)).sum
  | 0, _ => rfl
  | i + 1, h => by
    have hi : i < kvs.length := h
    rw [sumAt, sumAt_eq kvs i (Nat.le_of_lt hi), List.take_add_one, List.getElem?_eq_getElem hi, List.getD_eq_getElem?_getD, List.getElem?_eq_getElem hi, List.map_append, List.sum_append]
    simp
theorem kept_eq {ts : List Tie} (hts : ∀ t ∈ ts, t ∈ allT) : (orderAt 4).filter (keepO ts) = (orderAt 4).filter (okA ts) := List.filter_congr fun o ho => keep_ok hts ho
theorem files_fin {ts : List Tie} (hts : ∀ t ∈ ts, t ∈ allT) : DInv (filesOf ts) (((orderAt 4).filter (okA ts)).map (maskOf (psOf ts))) := by
  have h := files_inv ts (psOf ts) (orderAt 4) (orderAt 4).length (Nat.le_refl _)
  rw [List.take_length, kept_eq hts] at h
  exact h
theorem plain3 {ts : List Tie} (hts : ∀ t ∈ ts, t ∈ allT) : sumAt (filesOf ts) (filesOf ts).length = (num ts 4 : Int) := by
  rw [sumAt_eq _ _ (Nat.le_refl _), List.take_length, (files_fin hts).sum, List.length_map, len_perm order_perm]
  rfl
noncomputable def xl1 : List (List Int) := [[0, 0, 0, 0]]
noncomputable def xl2 : List (List Int) := [[0, 1, 1, 1], [1, 0, 1, 1], [0, 0, 1, 1], [1, 1, 0, 1], [0, 1, 0, 1], [1, 0, 0, 1], [0, 0, 0, 1], [1, 1, 1, 0], [0, 1, 1, 0], [1, 0, 1, 0], [0, 0, 1, 0], [1, 1, 0, 0], [0, 1, 0, 0], [1, 0, 0, 0]]
noncomputable def xl3 : List (List Int) := [[0, 1, 2, 2], [0, 2, 1, 2], [0, 1, 1, 2], [0, 2, 2, 1], [0, 1, 2, 1], [0, 2, 1, 1], [1, 0, 2, 2], [2, 0, 1, 2], [1, 0, 1, 2], [2, 0, 2, 1], [1, 0, 2, 1], [2, 0, 1, 1], [0, 0, 1, 2], [0, 0, 2, 1], [1, 2, 0, 2], [2, 1, 0, 2], [1, 1, 0, 2], [2, 2, 0, 1], [1, 2, 0, 1], [2, 1, 0, 1], [0, 1, 0, 2], [0, 2, 0, 1], [1, 0, 0, 2], [2, 0, 0, 1], [1, 2, 2, 0], [2, 1, 2, 0], [1, 1, 2, 0], [2, 2, 1, 0], [1, 2, 1, 0], [2, 1, 1, 0], [0, 1, 2, 0], [0, 2, 1, 0], [1, 0, 2, 0], [2, 0, 1, 0], [1, 2, 0, 0], [2, 1, 0, 0]]
noncomputable def xl4 : List (List Int) := [[0, 1, 2, 3], [0, 1, 3, 2], [0, 2, 1, 3], [0, 3, 1, 2], [0, 2, 3, 1], [0, 3, 2, 1], [1, 0, 2, 3], [1, 0, 3, 2], [2, 0, 1, 3], [3, 0, 1, 2], [2, 0, 3, 1], [3, 0, 2, 1], [1, 2, 0, 3], [1, 3, 0, 2], [2, 1, 0, 3], [3, 1, 0, 2], [2, 3, 0, 1], [3, 2, 0, 1], [1, 2, 3, 0], [1, 3, 2, 0], [2, 1, 3, 0], [3, 1, 2, 0], [2, 3, 1, 0], [3, 2, 1, 0]]
theorem xl1_eq : XL' 1 = xl1 := by decide +kernel
theorem xl2_eq : XL' 2 = xl2 := by decide +kernel
theorem xl3_eq : XL' 3 = xl3 := by decide +kernel
theorem xl4_eq : XL' 4 = xl4 := by decide +kernel
noncomputable def noEq (ps : List (Int × Int)) (r : List Int) : Bool := ps.all fun p => !(r.getD p.1.toNat 0 == r.getD p.2.toNat 0)
noncomputable def subs : List (Int × Int) → List (List (Int × Int))
  | [] => [[]]
  | a :: l => subs l ++ (subs l).map (a :: ·)
theorem filter_subs (q : Int × Int → Bool) : ∀ l, l.filter q ∈ subs l
  | [] => .head _
  | a :: l => by
    rw [List.filter_cons]
    cases q a with
    | true => exact List.mem_append_right _ (List.mem_map.mpr ⟨_, filter_subs q l, rfl⟩)
    | false => exact List.mem_append_left _ (filter_subs q l)
noncomputable def el0 (i : Nat) : List Bool := (List.range 4).map fun th => decide (256 * Builtin.bitAnd ((0 + (i : Int)).fdiv (2 ^ th)) 1 < 1)
noncomputable def ms (ps : List (Int × Int)) (l : List (List Int)) : List Int := (l.filter (noEq ps)).map (maskOf ps)
noncomputable def cn (l : List Int) (m : Int) : Int := ((l.filter fun x => x == m).length : Int)
noncomputable def wt (ps : List (Int × Int)) (m : Int) : Nat → Int
  | 0 => 0
  | i + 1 => wt ps m i + (if fitsM ps (el0 i) m then 1 else 0)
noncomputable def ex1 (n : Int) : Int := if n = 0 then 0 else 1
noncomputable def chk1 (M1 M2 M3 M4 : List Int) (m : Int) : Bool := ex1 (cn M4 m) == cn M4 m - cn M3 m + cn M2 m - cn M1 m
noncomputable def chk2 (M1 M2 M3 M4 : List Int) (w m : Int) : Bool := ex1 (cn M4 m) * w == 5 * cn M4 m - 4 * cn M3 m + 3 * cn M2 m - 2 * cn M1 m
noncomputable def chkA (ps : List (Int × Int)) (M1 M2 M3 M4 : List Int) : Bool := (List.range (2 ^ ps.length)).all fun m : Nat => chk1 M1 M2 M3 M4 (m : Int) && chk2 M1 M2 M3 M4 (wt ps (m : Int) 16) (m : Int)
noncomputable def chk (ps : List (Int × Int)) : Bool := chkA ps (ms ps xl1) (ms ps xl2) (ms ps xl3) (ms ps xl4)
theorem chk_a : (((subs dPairs).take 16).all chk) = true := by decide +kernel
theorem chk_b : ((((subs dPairs).drop 16).take 16).all chk) = true := by decide +kernel
theorem chk_c : ((((subs dPairs).drop 32).take 16).all chk) = true := by decide +kernel
theorem chk_d : (((subs dPairs).drop 48).all chk) = true := by decide +kernel
theorem chk_all {ps : List (Int × Int)} (h : ps ∈ subs dPairs) : chk ps = true := by
  have e : subs dPairs = (subs dPairs).take 16 ++ (((subs dPairs).drop 16).take 16 ++ (((subs dPairs).drop 32).take 16 ++ (subs dPairs).drop 48)) := by decide +kernel
  rw [e] at h
  rcases List.mem_append.mp h with h | h
  · exact List.all_eq_true.mp chk_a ps h
  · rcases List.mem_append.mp h with h | h
    · exact List.all_eq_true.mp chk_b ps h
    · rcases List.mem_append.mp h with h | h
      · exact List.all_eq_true.mp chk_c ps h
      · exact List.all_eq_true.mp chk_d ps h
-- bits
theorem bits_succ (N : Nat) (p : Nat → Bool) : bitsOf (N + 1) p = bitsOf N p + (if p N then 2 ^ N else 0) := by
  unfold bitsOf
  rw [List.range_succ, List.filter_append, List.map_append, List.sum_append]
  cases h : p N <;> simp [h]
theorem bits_lt (p : Nat → Bool) : ∀ N, 0 ≤ bitsOf N p ∧ bitsOf N p < 2 ^ N
  | 0 => ⟨Int.le_refl _, by show (0 : Int) < 1; decide⟩
  | N + 1 => by
    have h := bits_lt p N
    rw [bits_succ, Int.pow_succ]
    have hp : (0 : Int) < 2 ^ N := Int.pow_pos (by decide)
    split <;> omega
theorem bits_inj {p p' : Nat → Bool} : ∀ N, bitsOf N p = bitsOf N p' → ∀ i, i < N → p i = p' i
  | 0, _, i, hi => by omega
  | N + 1, h, i, hi => by
    rw [bits_succ, bits_succ] at h
    have h1 := bits_lt p N
    have h2 := bits_lt p' N
    have hN : p N = p' N := by
      cases e : p N <;> cases e' : p' N <;> simp only [e, e', if_true, Bool.false_eq_true, if_false] at h <;> first | rfl | omega
    rw [hN] at h
    have hr : bitsOf N p = bitsOf N p' := by omega
    rcases Nat.lt_or_ge i N with hl | hl
    · exact bits_inj N hr i hl
    · have : i = N := by omega
      rw [this]; exact hN
-- sums
noncomputable def sm (N : Nat) (g : Nat → Int) : Int := ((List.range N).map g).sum
theorem sm_succ (N : Nat) (g : Nat → Int) : sm (N + 1) g = sm N g + g N := by
  unfold sm; rw [List.range_succ, List.map_append, List.sum_append]; simp
theorem sm_add (g h : Nat → Int) : ∀ N, sm N (fun m => g m + h m) = sm N g + sm N h
  | 0 => rfl
  | N + 1 => by rw [sm_succ, sm_succ, sm_succ, sm_add g h N]; omega
theorem sm_congr {g h : Nat → Int} : ∀ N, (∀ m, m < N → g m = h m) → sm N g = sm N h
  | 0, _ => rfl
  | N + 1, e => by rw [sm_succ, sm_succ, sm_congr N fun m hm => e m (by omega), e N (by omega)]
theorem sm_zero : ∀ N, sm N (fun _ => 0) = 0
  | 0 => rfl
  | N + 1 => by rw [sm_succ, sm_zero N]; rfl
theorem sm_mul (k : Int) (g : Nat → Int) : ∀ N, sm N (fun m => k * g m) = k * sm N g
  | 0 => by show (0 : Int) = k * 0; omega
  | N + 1 => by rw [sm_succ, sm_succ, sm_mul k g N, Int.mul_add]
theorem sm_ind (x : Int) : ∀ N : Nat, sm N (fun m => if x = (m : Int) then 1 else 0) = if 0 ≤ x ∧ x < N then 1 else 0
  | 0 => by rw [if_neg (by omega)]; rfl
  | N + 1 => by
    rw [sm_succ, sm_ind x N]
    by_cases h : x = (N : Int)
    · rw [if_pos h, if_neg (by omega), if_pos (by omega)]; rfl
    · rw [if_neg h]
      by_cases h2 : 0 ≤ x ∧ x < N
      · rw [if_pos h2, if_pos (by omega)]; rfl
      · rw [if_neg h2, if_neg (by omega)]; rfl
theorem grp {α : Type} (f : α → Int) (N : Nat) : ∀ l : List α, (∀ a ∈ l, 0 ≤ f a ∧ f a < N) → (l.length : Int) = sm N fun m => ((l.filter fun a => f a == (m : Int)).length : Int)
  | [], _ => by simp [sm_zero]
  | a :: l, h => by
    have ih := grp f N l fun b m => h b (.tail _ m)
    have e : ∀ m : Nat, (((a :: l).filter fun a => f a == (m : Int)).length : Int) = ((l.filter fun a => f a == (m : Int)).length : Int) + (if f a = (m : Int) then 1 else 0) := fun m => by
      rw [List.filter_cons]
      by_cases q : f a = (m : Int)
      · rw [if_pos (by simpa using q), if_pos q]; simp
      · rw [if_neg (by simpa using q), if_neg q]; simp
    rw [sm_congr N fun m _ => e m, sm_add, ← ih, sm_ind, if_pos (h a (.head _))]
    simp
theorem nodup_count {K : List Int} (hn : K.Nodup) (m : Int) : ((K.filter fun x => x == m).length : Int) = if m ∈ K then 1 else 0 := by
  induction K with
  | nil => rfl
  | cons k K ih =>
    rw [List.nodup_cons] at hn
    rw [List.filter_cons]
    by_cases e : k = m
    · subst e
      have h0 : K.filter (fun x => x == k) = [] := List.filter_eq_nil_iff.mpr fun x hx q => hn.1 (by rw [← eq_of_beq q]; exact hx)
      simp [h0]
    · rw [if_neg (by simpa using e), ih hn.2]
      have : (m ∈ k :: K) ↔ m ∈ K := by rw [List.mem_cons]; exact ⟨fun q => q.resolve_left fun z => e z.symm, .inr⟩
      simp only [this]
noncomputable def AllX : List (List Int) := XL' 1 ++ XL' 2 ++ XL' 3 ++ XL' 4
noncomputable def okm (ts : List Tie) (m : Int) : Bool := AllX.any fun r => noEq (psOf ts) r && maskOf (psOf ts) r == m && okA ts r
theorem tie_pair : ∀ t ∈ allT, (t.1, t.2.1) ∈ dPairs ∨ (t.2.1, t.1) ∈ dPairs := by decide +kernel
theorem tie_ps {ts : List Tie} (hts : ∀ t ∈ ts, t ∈ allT) {t : Tie} (ht : t ∈ ts) : (t.1, t.2.1) ∈ psOf ts ∨ (t.2.1, t.1) ∈ psOf ts := by
  refine (tie_pair t (hts t ht)).imp (fun h => List.mem_filter.mpr ⟨h, ?_⟩) (fun h => List.mem_filter.mpr ⟨h, ?_⟩)
  · simp only [decide_eq_true_eq, spOf, List.mem_append]
    exact .inl (List.mem_map.mpr ⟨t, ht, rfl⟩)
  · simp only [decide_eq_true_eq, spOf, List.mem_append]
    exact .inr (List.mem_map.mpr ⟨t, ht, rfl⟩)
theorem ok_noEq {ts : List Tie} {r : List Int} (h : okA ts r = true) : noEq (psOf ts) r = true := by
  refine List.all_eq_true.mpr fun p hp => ?_
  have hp' := (List.mem_filter.mp hp).2
  simp only [decide_eq_true_eq, spOf, List.mem_append] at hp'
  have key : ∀ t ∈ ts, ¬ r.getD t.1.toNat 0 = r.getD t.2.1.toNat 0 := fun t ht q => by
    have := List.all_eq_true.mp h t ht
    have e : (r.getD t.1.toNat 0 == r.getD t.2.1.toNat 0) = true := by rw [q]; exact beq_self_eq_true _
    simp only [okT, badRow, e, Bool.true_or, Bool.not_true] at this
    cases this
  rcases hp' with hp' | hp'
  · obtain ⟨t, ht, rfl⟩ := List.mem_map.mp hp'
    simpa using key t ht
  · obtain ⟨t, ht, rfl⟩ := List.mem_map.mp hp'
    have := key t ht
    simpa using fun q => this (Eq.symm q)
theorem mask_sign {ps : List (Int × Int)} {r r' : List Int} (h : maskOf ps r = maskOf ps r') {p : Int × Int} (hp : p ∈ ps) : (r.getD p.1.toNat 0 < r.getD p.2.toNat 0 ↔ r'.getD p.1.toNat 0 < r'.getD p.2.toNat 0) := by
  obtain ⟨i, hi, rfl⟩ := List.mem_iff_getElem.mp hp
  have e : ps.getD i (0, 0) = ps[i] := by rw [List.getD_eq_getElem?_getD, List.getElem?_eq_getElem hi]; rfl
  have := bits_inj ps.length h i hi
  rw [e] at this
  simpa using this
theorem noEq_at {ps : List (Int × Int)} {r : List Int} (h : noEq ps r = true) {p : Int × Int} (hp : p ∈ ps) : r.getD p.1.toNat 0 ≠ r.getD p.2.toNat 0 := by
  have := List.all_eq_true.mp h p hp
  simpa using this
theorem okT_same {t : Tie} {r r' : List Int} (h1 : r.getD t.1.toNat 0 ≠ r.getD t.2.1.toNat 0) (h2 : r'.getD t.1.toNat 0 ≠ r'.getD t.2.1.toNat 0) (h : r.getD t.1.toNat 0 < r.getD t.2.1.toNat 0 ↔ r'.getD t.1.toNat 0 < r'.getD t.2.1.toNat 0) : okT t r = okT t r' := by
  unfold okT badRow
  have e1 : (r.getD t.1.toNat 0 == r.getD t.2.1.toNat 0) = false := by simpa using h1
  have e2 : (r'.getD t.1.toNat 0 == r'.getD t.2.1.toNat 0) = false := by simpa using h2
  have e3 : decide (r.getD t.1.toNat 0 > r.getD t.2.1.toNat 0) = decide (r'.getD t.1.toNat 0 > r'.getD t.2.1.toNat 0) := by
    rw [decide_eq_decide]; omega
  rw [e1, e2, e3]
theorem det {ts : List Tie} (hts : ∀ t ∈ ts, t ∈ allT) {r r' : List Int} (h1 : noEq (psOf ts) r = true) (h2 : noEq (psOf ts) r' = true) (h : maskOf (psOf ts) r = maskOf (psOf ts) r') (hr : okA ts r = true) : okA ts r' = true := by
  refine List.all_eq_true.mpr fun t ht => ?_
  have hr' := List.all_eq_true.mp hr t ht
  rcases tie_ps hts ht with hp | hp
  · rw [← okT_same (noEq_at h1 hp) (noEq_at h2 hp) (mask_sign h hp)]; exact hr'
  · have a := noEq_at h1 hp
    have b := noEq_at h2 hp
    have d := mask_sign h hp
    simp only at a b d
    rw [← okT_same (t := t) (r := r) (r' := r') (fun q => a q.symm) (fun q => b q.symm) (by omega)]; exact hr'
theorem cls {ts : List Tie} (hts : ∀ t ∈ ts, t ∈ allT) {r : List Int} (hr : r ∈ AllX) {m : Int} : (okA ts r && maskOf (psOf ts) r == m) = (okm ts m && (noEq (psOf ts) r && maskOf (psOf ts) r == m)) := by
  refine Bool.eq_iff_iff.mpr ?_
  simp only [Bool.and_eq_true, beq_iff_eq]
  constructor
  · rintro ⟨h1, h2⟩
    refine ⟨List.any_eq_true.mpr ⟨r, hr, ?_⟩, ok_noEq h1, h2⟩
    rw [ok_noEq h1, h1, h2]; simp
  · rintro ⟨h1, h2, h3⟩
    obtain ⟨r0, _, h0⟩ := List.any_eq_true.mp h1
    simp only [Bool.and_eq_true, beq_iff_eq] at h0
    exact ⟨det hts h0.1.1 h2 (h0.1.2.trans h3.symm) h0.2, h3⟩
theorem mask_lt (ps : List (Int × Int)) (r : List Int) : 0 ≤ maskOf ps r ∧ maskOf ps r < ((2 ^ ps.length : Nat) : Int) := by
  have := bits_lt (fun k => decide (r.getD (ps.getD k (0, 0)).1.toNat 0 < r.getD (ps.getD k (0, 0)).2.toNat 0)) ps.length
  refine ⟨this.1, ?_⟩
  have e : ((2 ^ ps.length : Nat) : Int) = (2 : Int) ^ ps.length := by rw [Int.natCast_pow]; rfl
  rw [e]; exact this.2
theorem cn_ms (ps : List (Int × Int)) (l : List (List Int)) (m : Int) : cn (ms ps l) m = ((l.filter fun r => noEq ps r && maskOf ps r == m).length : Int) := by
  unfold cn ms
  rw [filter_map', List.length_map, List.filter_filter]
  have e : (l.filter fun a => maskOf ps a == m && noEq ps a) = l.filter fun r => noEq ps r && maskOf ps r == m := List.filter_congr fun r _ => Bool.and_comm _ _
  rw [e]
theorem num_sum {ts : List Tie} (hts : ∀ t ∈ ts, t ∈ allT) {l : List (List Int)} (hl : ∀ r ∈ l, r ∈ AllX) : ((l.filter (okA ts)).length : Int) = sm (2 ^ (psOf ts).length) fun m => if okm ts (m : Int) then cn (ms (psOf ts) l) (m : Int) else 0 := by
  rw [grp (maskOf (psOf ts)) (2 ^ (psOf ts).length) _ fun r _ => mask_lt _ _]
  refine sm_congr _ fun m _ => ?_
  rw [List.filter_filter, cn_ms]
  have e : (l.filter fun a => maskOf (psOf ts) a == (m : Int) && okA ts a) = l.filter fun r => okm ts (m : Int) && (noEq (psOf ts) r && maskOf (psOf ts) r == (m : Int)) := by
    refine List.filter_congr fun r hr => ?_
    rw [Bool.and_comm]; exact cls hts (hl r hr)
  rw [e]
  cases okm ts (m : Int) with
  | true => simp
  | false => simp
theorem in1 : ∀ r ∈ XL' 1, r ∈ AllX := fun r h => List.mem_append_left _ (List.mem_append_left _ (List.mem_append_left _ h))
theorem in2 : ∀ r ∈ XL' 2, r ∈ AllX := fun r h => List.mem_append_left _ (List.mem_append_left _ (List.mem_append_right _ h))
theorem in3 : ∀ r ∈ XL' 3, r ∈ AllX := fun r h => List.mem_append_left _ (List.mem_append_right _ h)
theorem in4 : ∀ r ∈ XL' 4, r ∈ AllX := fun r h => List.mem_append_right _ h
theorem keys_mem {ts : List Tie} (hts : ∀ t ∈ ts, t ∈ allT) (m : Int) : (if m ∈ (filesOf ts).map (·.1) then (1 : Int) else 0) = if okm ts m then ex1 (cn (ms (psOf ts) xl4) m) else 0 := by
  have I := files_fin hts
  have hperm := List.isPerm_iff.mp order_perm
  rw [← xl4_eq]
  by_cases h : m ∈ (filesOf ts).map (·.1)
  · rw [if_pos h]
    obtain ⟨o, ho, e⟩ := List.mem_map.mp ((I.mem m).mp h)
    obtain ⟨ho1, ho2⟩ := List.mem_filter.mp ho
    have hx : o ∈ XL' 4 := hperm.mem_iff.mp ho1
    have hc := cls hts (in4 o hx) (m := m)
    rw [ho2, e] at hc
    simp only [beq_self_eq_true, Bool.and_true] at hc
    have hc' := hc.symm
    simp only [Bool.and_eq_true] at hc'
    rw [if_pos hc'.1, cn_ms]
    have hpos : 0 < ((XL' 4).filter fun r => noEq (psOf ts) r && maskOf (psOf ts) r == m).length := List.length_pos_of_mem (List.mem_filter.mpr ⟨hx, by rw [hc'.2, e]; simp⟩)
    unfold ex1
    rw [if_neg (by omega)]
  · rw [if_neg h]
    cases hk : okm ts m with
    | false => rfl
    | true =>
      rw [if_pos rfl, cn_ms]
      have h0 : ((XL' 4).filter fun r => noEq (psOf ts) r && maskOf (psOf ts) r == m) = [] := List.filter_eq_nil_iff.mpr fun r hr q => by
        refine h ((I.mem m).mpr (List.mem_map.mpr ⟨r, List.mem_filter.mpr ⟨hperm.mem_iff.mpr hr, ?_⟩, ?_⟩))
        · have hc := cls hts (in4 r hr) (m := m)
          rw [hk, q] at hc
          simp only [Bool.and_self, Bool.and_eq_true] at hc
          exact hc.1
        · simp only [Bool.and_eq_true, beq_iff_eq] at q
          exact q.2
      rw [h0]; rfl
theorem bit_pos : ((List.range 16).all fun i : Nat => (List.range 4).all fun th => decide (0 ≤ Builtin.bitAnd ((0 + (i : Int)).fdiv (2 ^ th)) 1)) = true := by decide +kernel
theorem early_eq (dr : List Int) {i : Nat} (hi : i < 16) : earlyL dr (0 + (i : Int)) = el0 i := by
  unfold earlyL el0
  refine List.map_congr_left fun th hth => ?_
  have hb := List.all_eq_true.mp (List.all_eq_true.mp bit_pos i (by simpa using hi)) th hth
  have hb' : 0 ≤ Builtin.bitAnd ((0 + (i : Int)).fdiv (2 ^ th)) 1 := by simpa using hb
  unfold earlyB
  generalize Builtin.bitAnd ((0 + (i : Int)).fdiv (2 ^ th)) 1 = b at hb' ⊢
  have hf : 0 ≤ (dr.getD th 0).fmod 256 ∧ (dr.getD th 0).fmod 256 < 256 := by
    rw [Int.fmod_eq_emod_of_nonneg _ (by decide)]; omega
  rw [decide_eq_decide]; omega
section
variable {ts : List Tie} (hts : ∀ t ∈ ts, t ∈ allT)
include hts
theorem keys_lt : ∀ k ∈ (filesOf ts).map (·.1), 0 ≤ k ∧ k < ((2 ^ (psOf ts).length : Nat) : Int) := by
  intro k hk
  obtain ⟨o, _, rfl⟩ := List.mem_map.mp (((files_fin hts).mem k).mp hk)
  exact mask_lt _ _
theorem num_at (j : Nat) (x : List (List Int)) (hx : XL' j = x) (hl : ∀ r ∈ XL' j, r ∈ AllX) : (num ts j : Int) = sm (2 ^ (psOf ts).length) fun m => if okm ts (m : Int) then cn (ms (psOf ts) x) (m : Int) else 0 := by
  unfold num
  rw [num_sum hts hl, hx]
theorem chk_at {m : Nat} (hm : m < 2 ^ (psOf ts).length) : ex1 (cn (ms (psOf ts) xl4) (m : Int)) = cn (ms (psOf ts) xl4) (m : Int) - cn (ms (psOf ts) xl3) (m : Int) + cn (ms (psOf ts) xl2) (m : Int) - cn (ms (psOf ts) xl1) (m : Int) ∧
    ex1 (cn (ms (psOf ts) xl4) (m : Int)) * wt (psOf ts) (m : Int) 16 = 5 * cn (ms (psOf ts) xl4) (m : Int) - 4 * cn (ms (psOf ts) xl3) (m : Int) + 3 * cn (ms (psOf ts) xl2) (m : Int) - 2 * cn (ms (psOf ts) xl1) (m : Int) := by
  have hc : chk (psOf ts) = true := chk_all (filter_subs _ _)
  have := List.all_eq_true.mp hc m (by simpa using hm)
  simp only [Bool.and_eq_true] at this
  exact ⟨eq_of_beq this.1, eq_of_beq this.2⟩
theorem plain4 : ((filesOf ts).length : Int) = (num ts 4 : Int) - num ts 3 + num ts 2 - num ts 1 := by
  have hK : ((filesOf ts).length : Int) = sm (2 ^ (psOf ts).length) fun m => if okm ts (m : Int) then ex1 (cn (ms (psOf ts) xl4) (m : Int)) else 0 := by
    have e : ((filesOf ts).length : Int) = (((filesOf ts).map (·.1)).length : Int) := by rw [List.length_map]
    rw [e, grp (fun k => k) (2 ^ (psOf ts).length) _ (keys_lt hts)]
    refine sm_congr _ fun m _ => ?_
    rw [nodup_count (files_fin hts).nodup, keys_mem hts]
  rw [hK, num_at hts 4 xl4 xl4_eq in4, num_at hts 3 xl3 xl3_eq in3, num_at hts 2 xl2 xl2_eq in2, num_at hts 1 xl1 xl1_eq in1]
  have e : ∀ a b c d : Nat → Int, ∀ N, sm N a - sm N b + sm N c - sm N d = sm N fun m => a m + (-1) * b m + (c m + (-1) * d m) := fun a b c d N => by
    rw [sm_add, sm_add, sm_add, sm_mul, sm_mul]; omega
  rw [e]
  refine sm_congr _ fun m hm => ?_
  have h := (chk_at hts hm).1
  cases okm ts (m : Int) with
  | true => simp only [if_true]; omega
  | false => simp
theorem fit_count (P : Int → Bool) : (((filesOf ts).filter fun kv => P kv.1).length : Int) = sm (2 ^ (psOf ts).length) fun m => if P (m : Int) then (if okm ts (m : Int) then ex1 (cn (ms (psOf ts) xl4) (m : Int)) else 0) else 0 := by
  have e : ((filesOf ts).filter fun kv => P kv.1).length = (((filesOf ts).map (·.1)).filter P).length := by rw [filter_map', List.length_map]
  rw [e, grp (fun k => k) (2 ^ (psOf ts).length) _ fun k hk => keys_lt hts k (List.mem_filter.mp hk).1]
  refine sm_congr _ fun m _ => ?_
  rw [List.filter_filter, ← keys_mem hts, ← nodup_count (files_fin hts).nodup]
  cases h : P (m : Int) with
  | true =>
    simp only [if_true]
    have e2 : (((filesOf ts).map (·.1)).filter fun a => a == (m : Int) && P a) = ((filesOf ts).map (·.1)).filter fun x => x == (m : Int) := List.filter_congr fun k _ => by
      by_cases q : k = (m : Int)
      · subst q; simp [h]
      · have : (k == (m : Int)) = false := by simpa using q
        rw [this]; rfl
    rw [e2]
  | false =>
    have e2 : (((filesOf ts).map (·.1)).filter fun a => a == (m : Int) && P a) = [] := List.filter_eq_nil_iff.mpr fun k _ q => by
      simp only [Bool.and_eq_true, beq_iff_eq] at q
      rw [q.1, h] at q
      cases q.2
    rw [e2]; simp
theorem choices_sum (dr : List Int) : ∀ i, i ≤ 16 → choicesAt (filesOf ts) (psOf ts) dr i = sm (2 ^ (psOf ts).length) fun m => (if okm ts (m : Int) then ex1 (cn (ms (psOf ts) xl4) (m : Int)) else 0) * wt (psOf ts) (m : Int) i
  | 0, _ => by
    have : (fun m : Nat => (if okm ts (m : Int) then ex1 (cn (ms (psOf ts) xl4) (m : Int)) else 0) * wt (psOf ts) (m : Int) 0) = fun _ => (0 : Int) := by
      funext m; show _ * (0 : Int) = 0; rw [Int.mul_zero]
    rw [this, sm_zero]; rfl
  | i + 1, h => by
    rw [choicesAt, choices_sum dr i (by omega), early_eq dr (by omega), fit_count hts, ← sm_add]
    refine sm_congr _ fun m _ => ?_
    rw [wt, Int.mul_add]
    congr 1
    cases fitsM (psOf ts) (el0 i) (m : Int) with
    | true => simp only [if_true, Int.mul_one]
    | false => simp
theorem plain5 (dr : List Int) : choicesAt (filesOf ts) (psOf ts) dr 16 = 5 * (num ts 4 : Int) - 4 * num ts 3 + 3 * num ts 2 - 2 * num ts 1 := by
  rw [choices_sum hts dr 16 (Nat.le_refl _), num_at hts 4 xl4 xl4_eq in4, num_at hts 3 xl3 xl3_eq in3, num_at hts 2 xl2 xl2_eq in2, num_at hts 1 xl1 xl1_eq in1]
  have e : ∀ a b c d : Nat → Int, ∀ N, 5 * sm N a - 4 * sm N b + 3 * sm N c - 2 * sm N d = sm N fun m => 5 * a m + (-4) * b m + (3 * c m + (-2) * d m) := fun a b c d N => by
    rw [sm_add, sm_add, sm_add, sm_mul, sm_mul, sm_mul, sm_mul]; omega
  rw [e]
  refine sm_congr _ fun m hm => ?_
  have h := (chk_at hts hm).2
  cases okm ts (m : Int) with
  | true => simp only [if_true]; rw [h]; omega
  | false => simp
end
theorem plain_ok (dr : List Int) : PlainOK (tsOf dr) dr := by
  have hts := ts_mem dr
  have hlt := ts_lt (dr := dr)
  obtain ⟨c1, c2, c3, c4⟩ := cnt_num hts
  refine ⟨?_, plain2 hlt, ?_, ?_, ?_⟩
  · rw [plain1 hts hlt, c1, c2, c3]; omega
  · rw [plain3 hts, c4]
  · rw [plain4 hts, c1, c2, c3, c4]
  · rw [plain5 hts, c1, c2, c3, c4]
end Mine
end
namespace Mine
theorem key.tw17237960793377995033 : True := trivial
theorem key.tw8081790538504859436 : True := trivial
theorem key.tw5653714239667882791 : True := trivial
theorem key.tw4296141233317576127 : True := trivial
theorem key.tw5775721699222966456 : True := trivial
theorem key.tw15514925037787215545 : True := trivial
section
local macro_rules | `(tactic| k_head) => `(tactic| o_head (kHook Mine.HK [2, 3, 6, 15, 17, 18, 20, 21, 22, 24, 25, 27, 28, 29, 31, 32, 34, 35, 36, 43, 44, 45, 46, 49, 56, 57, 58, 61, 63, 64, 66, 67, 68, 71, 73, 74, 76, 77, 78, 80, 81, 83, 84, 85, 87, 88, 90, 91, 92, 94, 95, 97, 98, 99, 101, 102, 104, 105, 106, 108, 109, 111, 112, 113, 116, 117, 118, 120, 121, 123, 124, 125, 128, 129, 130, 133, 134, 135, 138, 139, 140, 143, 144] (fun _ => by kernel_rfl)))
set_option Elab.async true in
set_option maxHeartbeats 8000000 in
theorem key : PySem.Challenge.rw_xg0052_01.Holds := by
  w_on; o_law; k_head; (case hw => w_witness2)
  intro w s₀ s₁ mg mb G Y fa o pm cd doc dV kV ho hd hcd hD hmg hg args vals as hpre hlay hrd hwl hlo
  have KX := kIn_of Y
  refine Ground.open G ?_
  intro T B D TE TW
  have T' := topRead_of T
  have hfa : fa = 144 := by
    have h1 := mg_of KX T'.g (n := Str.ofString "law") (v := .ref 144) rfl
    have h2 : mg (Str.ofString "law") = some (.ref fa) := hmg
    rw [h1] at h2
    cases h2; rfl
  subst hfa
  clear ho hd hcd hD hmg B TE TW Y D
  wrow_args hpre hlay hrd hwl hlo
  refine enter_call ?_
  w_top on
  try refine codeAny_mono ?_ (fun _ _ g => GoodW.toG g)
  rename (IntsAre _ _) => hI
  rename (Heap.IsList _ _ _) => hL
  rename (Well _ _ _ _) => hW
  rename (¬ _ < _) => hlen
  rename List Int => ns
  have hlen' : ns.length ≤ 63 := by omega
  obtain ⟨oo, ho, hoc, nn, hod⟩ := hL
  simp only [ofPy] at hW
  cases hW with
  | list hw _ =>
    rw [ho] at hw
    cases hw
    have hvs := congrArg Array.toList (Data.seq.inj hod).1
    simp only [List.toList_toArray] at hvs
    subst hvs
    refine codeAny_mono (ok_law (c := { prog := PySem.Challenge.rw_xg0052_01.row.prog, w := w, K := HK w.params, p := _, loose := _, mg := mg, mb := mb, b0 := s₁.heap }) rfl hlen' (plain_ok _) ⟨KX, T'⟩ ⟨rfl, by decide, by decide⟩ rfl (fun _ _ e => e)
      (.cons (.lst (n := 0) (by simp) ho (RepL.ints hI)) .nil)) fun res s' q => ?_
    obtain ⟨rfl, k⟩ := q
    have hs := kpSame k
    refine ⟨.inl ⟨.bool true, .bool true, [], rfl, ?_, .bool true, ?_, fun _ => ⟨.nil, fun _ h => nomatch h⟩⟩, kpLe k, ?_, ?_⟩
    · intro cls; rfl
    · wrow_post
    · obtain ⟨h, tk, e⟩ := hs; rw [e]
    · obtain ⟨h, tk, e⟩ := hs; rw [e]; exact hg
end
end Mine
theorem PySem.Challenge.cw_xg0052_01_holds : PySem.Challenge.rw_xg0052_01.Holds := by
  exact Mine.key
