import PyProof.Rows.All
import Wide.All
import OpenK.AllK
import Wide.FinOn
import PySem.Challenge.RW_rs0038_01
open PySem PySem.W PyProof.Rows PySem.Calls
set_option Elab.async false
set_option maxRecDepth 100000
set_option linter.unusedVariables false

set_option maxHeartbeats 8000000
namespace Mine
noncomputable def topRunT (tb : String → Option Builtin) (p : Program) (w : World) (n₀ : Nat) (ann : Option Value) : Nat → SharedT → Thread → Option SharedT
  | 0, _, _ => none
  | n + 1, s, t => match through t with
    | true => some s
    | false => match stepOk n₀ ann t with
      | false => none
      | true => match stepT (denote tb) p w s t with
        | some (s', t') => topRunT tb p w n₀ ann n s' t'
        | none => none
theorem topRun_of {tb : String → Option Builtin} {p : Program} {w : World} {n₀ : Nat} {ann : Option Value} : ∀ {n : Nat} {s s' : SharedT} {t : Thread}, topRunT tb p w n₀ ann n s t = some s' → topRun tb p w n₀ ann n s.abs t = some s'.abs := by
  intro n
  induction n with
  | zero => intro s s' t h; cases h
  | succ n ih =>
    intro s s' t h
    unfold topRunT at h
    unfold topRun
    cases he : through t with
    | true => rw [he] at h; cases h; rfl
    | false =>
      rw [he] at h
      cases hk : stepOk n₀ ann t with
      | false => rw [hk] at h; cases h
      | true =>
        rw [hk] at h
        cases hs : stepT (denote tb) p w s t with
        | none => rw [hs] at h; cases h
        | some r => obtain ⟨s₂, t₂⟩ := r; rw [hs] at h; rw [stepT_spec hs]; exact ih h
noncomputable def topRunQ (tb : String → Option Builtin) (p : Program) (w : World) (n₀ : Nat) (ann : Option Value) : Nat → SharedT → Thread → Option SharedT
  | 0, _, _ => none
  | n + 1, s, t => match through t with
    | true => some s
    | false => match PySem.W.Fast.tw6613529449190102663 n₀ ann t with
      | false => none
      | true => match PySem.W.Fast.tw10156331382660048174 (PySem.W.Fast.tw11892475500146522536 tb) p w s t with
        | some (s', t') => topRunQ tb p w n₀ ann n s' t'
        | none => none
noncomputable def bootTree (P : Params) : BT := .node (boot_o_0 P) (.node (boot_o_1 P) (.node (boot_o_3 P) (.node (boot_o_7 P) .nil .nil) .nil) (.node (boot_o_5 P) (.node (boot_o_9 P) .nil .nil) .nil)) (.node (boot_o_2 P) (.node (boot_o_4 P) (.node (boot_o_8 P) .nil .nil) .nil) (.node (boot_o_6 P) (.node (boot_o_10 P) .nil .nil) .nil))
theorem boot_abs (P : Params) : absHeap (bootTree P) 11 {} = boot_heap P := by kernel_rfl
theorem runQ_eq : ∀ {tb : String → Option Builtin} {p : Program} {w : World} {n₀ : Nat} {ann : Option Value} {n : Nat} {s : SharedT} {t : Thread}, topRunQ tb p w n₀ ann n s t = topRunT tb p w n₀ ann n s t := by
  intro tb p w n₀ ann n
  induction n with
  | zero => intro s t; rfl
  | succ n ih =>
    intro s t
    unfold topRunQ topRunT
    rw [← PySem.W.Fast.te6613529449190102663, ← PySem.W.Fast.te10156331382660048174, ← PySem.W.Fast.te11892475500146522536]
    simp only [ih]
theorem left_of_run {p q : Program} {loose : List Str} {Xt : Shared → Bool} {α : Type} {Yf : Shared → α} {Ya : World → α} {N : Nat} (e : opening p = plainProg p.main.scope.names) (hN : Nat.ble 600 N = true) (f : ∀ s, fenceModules? p s = some s)
    (run : ∀ (w : World) (os : OsState), (topRunQ PySem.W.Fast.tw14364793385576792824 p w 11 (some (.ref 6)) N ⟨bootTree w.params, 11, {}, Array.mk [], boot_drawn, boot_toks, os⟩ (topStub p)).map (fun s =>
      ((staticsOk (importedModules p.main.body) (boot_heap w.params) s.abs.heap && namesBound p s.abs.heap && gensDone s.abs && laidKept (boot_heap w.params) s.abs.heap), PySem.W.Fast.tw4187177175401517315 q loose (importedModules p.main.body) Xt true s.abs, Yf s.abs)) = some (true, openGood q loose, Ya w)) : LeftO p q loose Xt Yf Ya N := by
  intro w
  obtain ⟨⟨h, gs, d, k, os⟩, e1, e2⟩ := Option.map_eq_some_iff.mp (boot_open e hN f w)
  obtain ⟨rfl, rfl, rfl, rfl⟩ : h = boot_heap w.params ∧ gs = Array.mk [] ∧ d = boot_drawn ∧ k = boot_toks := by simpa using e2
  obtain ⟨s, r1, r2⟩ := Option.map_eq_some_iff.mp (run w os)
  rw [runQ_eq, ← PySem.W.Fast.te14364793385576792824] at r1
  rw [← PySem.W.Fast.te4187177175401517315] at r2
  obtain ⟨l1, l2, l3⟩ : _ ∧ _ ∧ _ := by simpa only [Prod.mk.injEq] using r2
  have r := topRun_of r1
  have t : topFrom treeTable p w N ⟨boot_heap w.params, Array.mk [], boot_drawn, boot_toks, os⟩ = some s.abs := by
    have z : (((boot_heap w.params).isNs mainGlobals && (Array.mk [] : Array GenState).size == 0, (boot_heap w.params).objs.size, (boot_heap w.params).nsMap mainGlobals "__annotations__") : Bool × Nat × Option Value) = (true, 11, some (.ref 6)) := by kernel_rfl
    obtain ⟨z1, z2, z3⟩ : _ ∧ _ ∧ _ := by simpa only [Prod.mk.injEq] using z
    have r' : topRun treeTable p w 11 (some (.ref 6)) N ⟨boot_heap w.params, Array.mk [], boot_drawn, boot_toks, os⟩ (topStub p) = some s.abs := (congrArg (fun H => topRun treeTable p w 11 (some (.ref 6)) N ⟨H, Array.mk [], boot_drawn, boot_toks, os⟩ (topStub p)) (boot_abs w.params)).symm.trans r
    unfold topFrom
    dsimp only
    rw [z1, z2, z3, r']
    show (match staticsOk (importedModules p.main.body) (boot_heap w.params) s.abs.heap && namesBound p s.abs.heap && gensDone s.abs && laidKept (boot_heap w.params) s.abs.heap with | true => _ | false => _) = _
    rw [l1]
  unfold openEnds
  rw [e1]
  show (topFrom treeTable p w N _).map _ = _
  rw [t]
  exact congrArg some (Prod.ext l2 l3)
noncomputable def topView : Program := PySem.W.view PySem.Challenge.pw_rs0038_01 [1,2,3,5,6,7,9,10,11,12,13,14,15,16,17,18,19,20]
local macro_rules | `(tactic| o_head $H) => `(tactic| (refine holds_open (q := topView) (loose := []) (Xt := fun s => xlAt topView [] s && recOk (RowW.records PySem.Challenge.rw_rs0038_01.row.toRowW) s) (XP := XL topView []) (Yf := Hook.obs $H) (Ya := Hook.val $H) (YP := Hook.says $H) (N := 2014) (left_of_run (by kernel_rfl) (by rfl) (fun _ => by kernel_rfl) (fun _ _ => by kernel_rfl)) (Hook.of $H) (Hook.keeps $H) (fun s e => xl_of s (Bool.and_eq_true_iff.mp e).1) XL.keeps (by rfl) (by rfl) (by rfl) (fun s e => recFacts_of (Bool.and_eq_true_iff.mp e).2) (by rfl) (by first | assumption | decide +kernel) (by decide +kernel) ⟨rfl, rfl, rfl, rfl, rfl, by decide +kernel⟩ ?hw ?hc))
open_top hd for PySem.Challenge.rw_rs0038_01
end Mine
namespace Mine

/-- a datum -/
inductive D where
  | none
  | bool (b : Bool)
  | int (i : Int)
  | str (x : Str)
  | tup (ds : List D)
  | lst (ds : List D)
  | dct (kvs : List (Str × Int))
  | cmp (sel : List (Int × Int))
  | rng (n : Nat)
  | typ (n : String)

abbrev Vw := Addr → Option Obj

abbrev tupObj (vs : List Value) (n : Nat) : Obj := { cls := .type "tuple", data := .seq vs.toArray n }
abbrev lstObj (vs : List Value) (n : Nat) : Obj := { cls := .type "list", data := .seq vs.toArray n }

/-- the entries of a dict of texts to ints -/
inductive DEnt (P : Params) : List DictEntry → List (Str × Int) → Prop
  | nil : DEnt P [] []
  | cons {x : Str} {t u : Tok} {i : Int} {es : List DictEntry} {kvs : List (Str × Int)} : DEnt P es kvs → DEnt P (⟨PyData.keyHash P x, .str x t, .int i u⟩ :: es) ((x, i) :: kvs)

/-- the address of the class TupleComp -/
abbrev tcA : Addr := 38

mutual
inductive Rep (P : Params) (V : Vw) : Value → D → Prop
  | none : Rep P V .none .none
  | bool (b : Bool) : Rep P V (.bool b) (.bool b)
  | int (i : Int) (t : Tok) : Rep P V (.int i t) (.int i)
  | str (x : Str) (t : Tok) : Rep P V (.str x t) (.str x)
  | tup {a : Addr} {vs : List Value} {n : Nat} {ds : List D} : V a = some (tupObj vs n) → RepAll P V vs ds → Rep P V (.ref a) (.tup ds)
  | lst {a : Addr} {vs : List Value} {n : Nat} {ds : List D} : V a = some (lstObj vs n) → RepAll P V vs ds → Rep P V (.ref a) (.lst ds)
  | dct {a : Addr} {es : List DictEntry} {n : Nat} {kvs : List (Str × Int)} : (a == sysModules) = false → V a = some (dictOf es n) → DEnt P es kvs → (kvs.map (·.1)).Nodup → Rep P V (.ref a) (.dct kvs)
  | cmp {a dx : Addr} {hs : Int} {t : Tok} {v : Value} {n : Nat} {sel : List (Int × Int)} : V a = some (instObj tcA dx) → V dx = some (dictOf [⟨hs, .str (Str.ofString "comp_select_list") t, v⟩] n) →
      Rep P V v (.lst (sel.map fun p => .tup [.int p.1, .int p.2])) → Rep P V (.ref a) (.cmp sel)
  | rng {a : Addr} {n : Nat} {t u v : Tok} : V a = some { cls := .type "range", data := .fields #[.int 0 t, .int n u, .int 1 v] } → Rep P V (.ref a) (.rng n)
  | typ (n : String) : Rep P V (.type n) (.typ n)
inductive RepAll (P : Params) (V : Vw) : List Value → List D → Prop
  | nil : RepAll P V [] []
  | cons {v : Value} {d : D} {vs : List Value} {ds : List D} : Rep P V v d → RepAll P V vs ds → RepAll P V (v :: vs) (d :: ds)
end

noncomputable def Vw.le (V V' : Vw) : Prop := ∀ a o, V a = some o → V' a = some o
theorem Vw.le_refl (V : Vw) : V.le V := fun _ _ e => e
theorem Vw.le.trans {V V' V'' : Vw} (h : V.le V') (h' : V'.le V'') : V.le V'' := fun a o e => h' a o (h a o e)

theorem no {α : Type} {p : Prop} {x : Option α} {o : α} (h : x = none) (e : x = some o) : p := absurd (h.symm.trans e) nofun
theorem ne_none {α β : Type} {f : β → Option α} {a b : β} {o : α} (h : f b = none) (e : f a = some o) : a ≠ b := fun q => no h (q ▸ e)
theorem inF {α : Type} {b : α} {l : List α} {F : List (List α)} (h : b ∈ l) : b ∈ (l :: F).flatten := by rw [List.flatten_cons]; exact List.mem_append_left _ h
theorem inT {α : Type} {b : α} {l : List α} {F : List (List α)} (h : b ∈ F.flatten) : b ∈ (l :: F).flatten := by rw [List.flatten_cons]; exact List.mem_append_right _ h

/-- a list of values, from its tail -/
theorem RepAll.ind {P : Params} {V : Vw} {motive : List Value → List D → Prop} (nil : motive [] []) (cons : ∀ {v d vs ds}, Rep P V v d → RepAll P V vs ds → motive vs ds → motive (v :: vs) (d :: ds)) {vs : List Value} {ds : List D} (t : RepAll P V vs ds) : motive vs ds :=
  RepAll.rec (motive_1 := fun _ _ _ => True) (motive_2 := fun vs ds _ => motive vs ds) trivial (fun _ => trivial) (fun _ _ => trivial) (fun _ _ => trivial) (fun _ _ _ => trivial) (fun _ _ _ => trivial) (fun _ _ _ _ => trivial) (fun _ _ _ _ => trivial) (fun _ => trivial) (fun _ => trivial) nil (fun e r _ ih => cons e r ih) t
theorem Rep.mono {P : Params} {V V' : Vw} (h : V.le V') {v : Value} {d : D} (t : Rep P V v d) : Rep P V' v d :=
  Rep.rec (motive_1 := fun v d _ => Rep P V' v d) (motive_2 := fun vs ds _ => RepAll P V' vs ds) .none .bool .int .str (fun e _ ih => .tup (h _ _ e) ih) (fun e _ ih => .lst (h _ _ e) ih) (fun z e k u => .dct z (h _ _ e) k u) (fun e₁ e₂ _ ih => .cmp (h _ _ e₁) (h _ _ e₂) ih) (fun e => .rng (h _ _ e)) .typ .nil (fun _ _ a b => .cons a b) t
theorem RepAll.mono {P : Params} {V V' : Vw} (h : V.le V') {vs : List Value} {ds : List D} (t : RepAll P V vs ds) : RepAll P V' vs ds :=
  RepAll.ind .nil (fun e _ ih => .cons (e.mono h) ih) t

section
variable {P : Params} {V : Vw}
@[elab_as_elim] theorem Rep.boolE {b : Bool} {motive : ∀ v, Rep P V v (.bool b) → Prop} (bool : motive (.bool b) (.bool b)) {v : Value} (t : Rep P V v (.bool b)) : motive v t := by cases t; exact bool
@[elab_as_elim] theorem Rep.intE {i : Int} {motive : ∀ v, Rep P V v (.int i) → Prop} (int : ∀ t : Tok, motive (.int i t) (.int i t)) {v : Value} (t : Rep P V v (.int i)) : motive v t := by cases t with | int i t => exact int t
@[elab_as_elim] theorem Rep.strE {x : Str} {motive : ∀ v, Rep P V v (.str x) → Prop} (str : ∀ t : Tok, motive (.str x t) (.str x t)) {v : Value} (t : Rep P V v (.str x)) : motive v t := by cases t with | str x t => exact str t
@[elab_as_elim] theorem Rep.typE {n : String} {motive : ∀ v, Rep P V v (.typ n) → Prop} (typ : motive (.type n) (.typ n)) {v : Value} (t : Rep P V v (.typ n)) : motive v t := by cases t; exact typ
@[elab_as_elim] theorem Rep.tupE {ds : List D} {motive : ∀ v, Rep P V v (.tup ds) → Prop} (tup : ∀ {a : Addr} {vs : List Value} {n : Nat} (e : V a = some (tupObj vs n)) (r : RepAll P V vs ds), motive (.ref a) (.tup e r)) {v : Value} (t : Rep P V v (.tup ds)) : motive v t := by cases t with | tup e r => exact tup e r
@[elab_as_elim] theorem Rep.lstE {ds : List D} {motive : ∀ v, Rep P V v (.lst ds) → Prop} (lst : ∀ {a : Addr} {vs : List Value} {n : Nat} (e : V a = some (lstObj vs n)) (r : RepAll P V vs ds), motive (.ref a) (.lst e r)) {v : Value} (t : Rep P V v (.lst ds)) : motive v t := by cases t with | lst e r => exact lst e r
@[elab_as_elim] theorem Rep.dctE {kvs : List (Str × Int)} {motive : ∀ v, Rep P V v (.dct kvs) → Prop} (dct : ∀ {a : Addr} {es : List DictEntry} {n : Nat} (z : (a == sysModules) = false) (e : V a = some (dictOf es n)) (k : DEnt P es kvs) (u : (kvs.map (·.1)).Nodup), motive (.ref a) (.dct z e k u)) {v : Value} (t : Rep P V v (.dct kvs)) : motive v t := by cases t with | dct z e k u => exact dct z e k u
@[elab_as_elim] theorem Rep.rngE {n : Nat} {motive : ∀ v, Rep P V v (.rng n) → Prop} (rng : ∀ {a : Addr} {t u x : Tok} (e : V a = some { cls := .type "range", data := .fields #[.int 0 t, .int n u, .int 1 x] }), motive (.ref a) (.rng e)) {v : Value} (t : Rep P V v (.rng n)) : motive v t := by cases t with | rng e => exact rng e
@[elab_as_elim] theorem RepAll.nilE {motive : ∀ vs, RepAll P V vs [] → Prop} (nil : motive [] .nil) {vs : List Value} (t : RepAll P V vs []) : motive vs t := by cases t; exact nil
@[elab_as_elim] theorem RepAll.consE {d : D} {ds : List D} {motive : ∀ vs, RepAll P V vs (d :: ds) → Prop} (cons : ∀ {v : Value} {vs : List Value} (e : Rep P V v d) (r : RepAll P V vs ds), motive (v :: vs) (.cons e r)) {vs : List Value} (t : RepAll P V vs (d :: ds)) : motive vs t := by cases t with | cons e r => exact cons e r
end

theorem RepAll.length {P : Params} {V : Vw} {vs : List Value} {ds : List D} (t : RepAll P V vs ds) : vs.length = ds.length :=
  RepAll.ind (motive := fun vs ds => vs.length = ds.length) rfl (fun _ _ ih => congrArg Nat.succ ih) t
theorem RepAll.get {P : Params} {V : Vw} {vs : List Value} {ds : List D} (t : RepAll P V vs ds) : ∀ {i : Nat} {d : D}, ds[i]? = some d → ∃ v, vs[i]? = some v ∧ Rep P V v d :=
  RepAll.ind (motive := fun vs ds => ∀ {i : Nat} {d : D}, ds[i]? = some d → ∃ v, vs[i]? = some v ∧ Rep P V v d) (fun h => nomatch h) (fun e _ ih => fun {i} {_} => match i with
    | 0 => fun h => ⟨_, rfl, Option.some.inj h ▸ e⟩
    | _ + 1 => fun h => ih h) t
theorem RepAll.get' {P : Params} {V : Vw} {vs : List Value} {ds : List D} (t : RepAll P V vs ds) : ∀ {i : Nat} {v : Value}, vs[i]? = some v → ∃ d, ds[i]? = some d ∧ Rep P V v d :=
  RepAll.ind (motive := fun vs ds => ∀ {i : Nat} {v : Value}, vs[i]? = some v → ∃ d, ds[i]? = some d ∧ Rep P V v d) (fun h => nomatch h) (fun e _ ih => fun {i} {_} => match i with
    | 0 => fun h => ⟨_, rfl, Option.some.inj h ▸ e⟩
    | _ + 1 => fun h => ih h) t
theorem RepAll.append {P : Params} {V : Vw} {vs : List Value} {ds : List D} {ws : List Value} {es : List D} (t : RepAll P V vs ds) (r : RepAll P V ws es) : RepAll P V (vs ++ ws) (ds ++ es) :=
  RepAll.ind (motive := fun vs ds => RepAll P V (vs ++ ws) (ds ++ es)) r (fun e _ ih => .cons e ih) t
theorem RepAll.take {P : Params} {V : Vw} {vs : List Value} {ds : List D} (n : Nat) (t : RepAll P V vs ds) : RepAll P V (vs.take n) (ds.take n) :=
  RepAll.ind (motive := fun vs ds => ∀ n, RepAll P V (vs.take n) (ds.take n)) (fun n => by rw [List.take_nil, List.take_nil]; exact .nil) (fun e _ ih n => match n with
    | 0 => .nil
    | n + 1 => .cons e (ih n)) t n
theorem RepAll.drop {P : Params} {V : Vw} {vs : List Value} {ds : List D} (n : Nat) (t : RepAll P V vs ds) : RepAll P V (vs.drop n) (ds.drop n) :=
  RepAll.ind (motive := fun vs ds => ∀ n, RepAll P V (vs.drop n) (ds.drop n)) (fun n => by rw [List.drop_nil, List.drop_nil]; exact .nil) (fun e r ih n => match n with
    | 0 => .cons e r
    | n + 1 => ih n) t n
theorem RepAll.extract {P : Params} {V : Vw} {vs : List Value} {ds : List D} (a b : Nat) (r : RepAll P V vs ds) : RepAll P V (vs.extract a b) (ds.extract a b) := by
  simp only [List.extract_eq_take_drop]; exact (r.drop a).take _
theorem RepAll.nil_inv {P : Params} {V : Vw} {vs : List Value} (h : RepAll P V vs []) : vs = [] := by cases h; rfl

/-- only new objects; the block's own namespace and the frame's alone may be written anew as the same namespaces -/
structure Ext (en : Env) (V : Vw) (s : Shared) (V' : Vw) (s' : Shared) : Prop where
  same : ∃ h' tk, s' = { s with heap := h', toks := tk }
  keep : ∀ a o, a ≠ en.locals → en.frame ≠ some a → s.heap.get? a = some o → s'.heap.get? a = some o
  loc : ∀ o, s.heap.get? en.locals = some o → ∃ o', s'.heap.get? en.locals = some o'
  ns : ∀ m, s.heap.Ns en.locals m → s'.heap.Ns en.locals m
  locF : ∀ f o, en.frame = some f → s.heap.get? f = some o → ∃ o', s'.heap.get? f = some o'
  nsF : ∀ f m, en.frame = some f → s.heap.Ns f m → s'.heap.Ns f m
  le : V.le V'
  new : ∀ a o, V' a = some o → V a = some o ∨ s.heap.get? a = none
  held : ∀ a o, V' a = some o → s'.heap.get? a = some o

/-- only new objects, nothing else -/
structure ExtF (V : Vw) (s : Shared) (V' : Vw) (s' : Shared) : Prop where
  same : ∃ h' tk, s' = { s with heap := h', toks := tk }
  keep : ∀ a o, s.heap.get? a = some o → s'.heap.get? a = some o
  le : V.le V'
  new : ∀ a o, V' a = some o → V a = some o ∨ s.heap.get? a = none
  held : ∀ a o, V' a = some o → s'.heap.get? a = some o

noncomputable def Held (V : Vw) (s : Shared) : Prop := ∀ a o, V a = some o → s.heap.get? a = some o

theorem get_none_back {h h' : Heap} {a : Addr} (k : ∀ o, h.get? a = some o → ∃ o', h'.get? a = some o') (e : h'.get? a = none) : h.get? a = none := by
  cases q : h.get? a with
  | none => rfl
  | some o => obtain ⟨o', e'⟩ := k o q; rw [e] at e'; cases e'
theorem get_size_none (h : Heap) {a : Addr} (ha : h.objs.size ≤ a) : h.get? a = none := by
  cases q : h.get? a with
  | none => rfl
  | some o => exact absurd (Heap.lt_size q) (Nat.not_lt.mpr ha)

theorem ExtF.toExt {V V' : Vw} {s s' : Shared} (L : Env) (x : ExtF V s V' s') : Ext L V s V' s' :=
  ⟨x.same, fun a o _ _ e => x.keep a o e, fun o e => ⟨o, x.keep _ o e⟩, fun _ n => n.keeps x.keep, fun _ o _ e => ⟨o, x.keep _ o e⟩, fun _ _ _ n => n.keeps x.keep, x.le, x.new, x.held⟩
theorem ExtF.refl {V : Vw} {s : Shared} (h : Held V s) : ExtF V s V s := ⟨⟨_, _, rfl⟩, fun _ _ e => e, V.le_refl, fun _ _ e => .inl e, h⟩
theorem ExtF.toks {V : Vw} {s : Shared} (h : Held V s) (t : Nat) : ExtF V s V { s with toks := t } := ⟨⟨_, _, rfl⟩, fun _ _ e => e, V.le_refl, fun _ _ e => .inl e, h⟩
theorem ExtF.trans {V V' V'' : Vw} {s s' s'' : Shared} (x : ExtF V s V' s') (y : ExtF V' s' V'' s'') : ExtF V s V'' s'' :=
  ⟨by obtain ⟨h1, t1, e1⟩ := x.same; obtain ⟨h2, t2, e2⟩ := y.same; exact ⟨h2, t2, by rw [e2, e1]⟩, fun a o e => y.keep a o (x.keep a o e), x.le.trans y.le,
    fun a o e => (y.new a o e).elim (fun e => x.new a o e) fun e => .inr (get_none_back (fun o q => ⟨o, x.keep a o q⟩) e), y.held⟩
theorem Ext.someAt {L : Env} {V V' : Vw} {s s' : Shared} (x : Ext L V s V' s') (a : Addr) (o : Obj) (e : s.heap.get? a = some o) : ∃ o', s'.heap.get? a = some o' := by
  by_cases q : a = L.locals
  · subst q; exact x.loc o e
  · by_cases q' : L.frame = some a
    · exact x.locF a o q' e
    · exact ⟨o, x.keep a o q q' e⟩
theorem Ext.trans {L : Env} {V V' V'' : Vw} {s s' s'' : Shared} (x : Ext L V s V' s') (y : Ext L V' s' V'' s'') : Ext L V s V'' s'' :=
  ⟨by obtain ⟨h1, t1, e1⟩ := x.same; obtain ⟨h2, t2, e2⟩ := y.same; exact ⟨h2, t2, by rw [e2, e1]⟩, fun a o n n' e => y.keep a o n n' (x.keep a o n n' e), fun o e => let ⟨o', e'⟩ := x.loc o e; y.loc o' e',
    fun m n => y.ns m (x.ns m n), fun f o q e => let ⟨o', e'⟩ := x.locF f o q e; y.locF f o' q e', fun f m q n => y.nsF f m q (x.nsF f m q n), x.le.trans y.le,
    fun a o e => (y.new a o e).elim (fun e => x.new a o e) fun e => .inr (get_none_back (fun o q => x.someAt a o q) e), y.held⟩
theorem Ext.refl {L : Env} {V : Vw} {s : Shared} (h : Held V s) : Ext L V s V s := (ExtF.refl h).toExt L
theorem ExtF.heldF {V V' : Vw} {s s' : Shared} (x : ExtF V s V' s') : Held V' s' := x.held
theorem Ext.heldF {L : Env} {V V' : Vw} {s s' : Shared} (x : Ext L V s V' s') : Held V' s' := x.held

/-- one more object, seen -/
noncomputable def Vw.put (V : Vw) (a : Addr) (o : Obj) : Vw := fun b => if b = a then some o else V b
theorem Vw.put_self (V : Vw) (a : Addr) (o : Obj) : V.put a o a = some o := by simp [Vw.put]
theorem Vw.put_ne (V : Vw) {a b : Addr} (o : Obj) (h : b ≠ a) : V.put a o b = V b := by simp [Vw.put, h]
theorem Vw.le_put {V : Vw} {a : Addr} {o : Obj} (h : V a = none) : V.le (V.put a o) := fun b o' e => by
  have : b ≠ a := fun q => by rw [q, h] at e; cases e
  rw [V.put_ne o this]; exact e
theorem Held.gone {V : Vw} {s : Shared} (h : Held V s) {a : Addr} (ha : s.heap.get? a = none) : V a = none := by
  cases e : V a with
  | none => rfl
  | some o => rw [h a o e] at ha; cases ha
theorem Held.fresh {V : Vw} {s : Shared} (h : Held V s) {a : Addr} (ha : s.heap.objs.size ≤ a) : V a = none := h.gone (get_size_none _ ha)

/-- new objects are made, one of them seen -/
theorem ExtF.of_keep1 {V : Vw} {s : Shared} (h : Held V s) {h' : Heap} {t : Nat} {a : Addr} {o : Obj} (hk : ∀ a o, s.heap.get? a = some o → h'.get? a = some o)
    (ha : s.heap.get? a = none) (ho : h'.get? a = some o) : ExtF V s (V.put a o) { s with heap := h', toks := t } :=
  ⟨⟨_, _, rfl⟩, hk, Vw.le_put (h.gone ha),
    fun b o' e => by
      by_cases q : b = a
      · exact .inr (q ▸ ha)
      · rw [V.put_ne o q] at e; exact .inl e,
    fun b o' e => by
      by_cases q : b = a
      · subst q; rw [V.put_self] at e; cases e; exact ho
      · rw [V.put_ne o q] at e; exact hk b o' (h b o' e)⟩
/-- an object is made and seen -/
theorem ExtF.alloc {V : Vw} {s : Shared} (h : Held V s) (o : Obj) (hf : o.isFreed = false) (t : Nat) : ExtF V s (V.put s.heap.objs.size o) { s with heap := s.heap.push o, toks := t } :=
  ExtF.of_keep1 h (fun a o' e => Heap.get?_push_of_some o e) (get_size_none _ (Nat.le_refl _)) (Heap.get?_push_size _ hf)
/-- new objects are made and not seen -/
theorem ExtF.of_keep {V : Vw} {s : Shared} (h : Held V s) {h' : Heap} {t : Nat} (hk : ∀ a o, s.heap.get? a = some o → h'.get? a = some o) : ExtF V s V { s with heap := h', toks := t } :=
  ⟨⟨_, _, rfl⟩, hk, V.le_refl, fun _ _ e => .inl e, fun a o e => hk a o (h a o e)⟩

/-- a name is read -/
noncomputable def LoadsTo (env : Env) (h : Heap) (x : Str) (v : Value) : Prop :=
  (env.kindOf x = some .local ∧ ∃ m, h.Ns env.locals m ∧ m x = some v) ∨
  ((env.kindOf x = some .cell ∨ env.kindOf x = some .free) ∧ ∃ c, env.cells.lookup x = some c ∧ c ≠ env.locals ∧ h.IsCell c (some v))

abbrev Nm := List (Str × D)

structure St (P : Params) (hB : Heap) (env : Env) (ρ : Nm) (V : Vw) (s : Shared) : Prop where
  base : ∀ a o, hB.get? a = some o → V a = some o
  held : Held V s
  fn : env.scope.kind = .function
  glob : env.globals = mainGlobals
  blt : env.builtins = builtinsNs
  above : hB.objs.size ≤ env.locals
  locV : V env.locals = none
  ns : ∃ m, s.heap.Ns env.locals m
  cell : ∀ x c, env.cells.lookup x = some c → V c = none ∧ c ≠ env.locals ∧ hB.objs.size ≤ c ∧ ∃ v, s.heap.IsCell c v
  apart : env.cells.Pairwise fun x y => x.2 ≠ y.2
  frm : ∀ f, env.frame = some f → V f = none ∧ ∃ m, s.heap.Ns f m
  names : ∀ x d, ρ.lookup x = some d → (x == ("__debug__" : Str)) = false ∧ ∃ v, Rep P V v d ∧ LoadsTo env s.heap x v

theorem St.mono {P : Params} {hB : Heap} {env : Env} {ρ ρ' : Nm} {V : Vw} {s : Shared} (x : St P hB env ρ V s) (h : ∀ y d, ρ'.lookup y = some d → ρ.lookup y = some d) : St P hB env ρ' V s :=
  { x with names := fun y d e => x.names y d (h y d e) }

theorem St.low {P : Params} {hB : Heap} {env : Env} {ρ : Nm} {V : Vw} {s : Shared} (x : St P hB env ρ V s) : hB.objs.size ≤ s.heap.objs.size := by
  obtain ⟨m, n⟩ := x.ns
  exact Nat.le_trans x.above (Nat.le_of_lt n.lt)
theorem cell_not_ns {h : Heap} {c f : Addr} {v : Option Value} {m : Str → Option Value} (hc : h.IsCell c v) (hf : h.Ns f m) : c ≠ f := fun q => by
  obtain ⟨o, ho, hd⟩ := hc
  obtain ⟨o', es, ep, ho', hd', _⟩ := hf
  rw [q, ho'] at ho; cases ho; rw [hd'] at hd; cases hd
theorem LoadsTo.ext {env : Env} {V V' : Vw} {s s' : Shared} {x : Str} {v : Value} (h : LoadsTo env s.heap x v) (y : Ext env V s V' s') (hf : ∀ f, env.frame = some f → V f = none ∧ ∃ m, s.heap.Ns f m) : LoadsTo env s'.heap x v := by
  rcases h with ⟨k, m, n, e⟩ | ⟨k, c, hc, hcl, hcc⟩
  · exact .inl ⟨k, m, y.ns m n, e⟩
  · have hcf : env.frame ≠ some c := fun q => let ⟨_, _, hm⟩ := hf c q; cell_not_ns hcc hm rfl
    obtain ⟨o, ho, hd⟩ := hcc
    exact .inr ⟨k, c, hc, hcl, o, y.keep c o hcl hcf ho, hd⟩

theorem St.ext {P : Params} {hB : Heap} {env : Env} {ρ : Nm} {V V' : Vw} {s s' : Shared} (x : St P hB env ρ V s) (y : Ext env V s V' s') : St P hB env ρ V' s' where
  base := fun a o e => y.le a o (x.base a o e)
  held := y.held
  fn := x.fn
  glob := x.glob
  blt := x.blt
  above := x.above
  locV := by
    obtain ⟨m, n⟩ := x.ns
    cases e : V' env.locals with
    | none => rfl
    | some o => rcases y.new _ _ e with q | q
                · rw [x.locV] at q; cases q
                · obtain ⟨o', _, _, ho', _⟩ := n; rw [q] at ho'; cases ho'
  ns := let ⟨m, n⟩ := x.ns; ⟨m, y.ns m n⟩
  cell := fun z c h => by
    obtain ⟨h1, h2, h3, v, hcc⟩ := x.cell z c h
    have hcf : env.frame ≠ some c := fun q => let ⟨_, _, hm⟩ := x.frm c q; cell_not_ns hcc hm rfl
    obtain ⟨o, ho, hd⟩ := hcc
    refine ⟨?_, h2, h3, v, o, y.keep c o h2 hcf ho, hd⟩
    cases e : V' c with
    | none => rfl
    | some o' => rcases y.new _ _ e with q | q
                 · rw [h1] at q; cases q
                 · rw [q] at ho; cases ho
  apart := x.apart
  frm := fun f hf => by
    obtain ⟨h1, m, n⟩ := x.frm f hf
    refine ⟨?_, m, y.nsF f m hf n⟩
    cases e : V' f with
    | none => rfl
    | some o => rcases y.new _ _ e with q | q
                · rw [h1] at q; cases q
                · obtain ⟨o', _, _, ho', _⟩ := n; rw [q] at ho'; cases ho'
  names := fun z d e => by
    obtain ⟨hd, v, r, l⟩ := x.names z d e
    exact ⟨hd, v, r.mono y.le, l.ext y x.frm⟩

/-- room for n more frames -/
structure Room (n : Nat) (A : Around) : Prop where
  handled : A.handled = none
  depth : A.depth + n < recursionLimit
  units : A.units + 10 * n + 100 < cLine
theorem Room.le {n k : Nat} {A : Around} (r : Room n A) (h : k ≤ n) : Room k A := ⟨r.handled, by have := r.depth; (first | lia | omega), by have := r.units; (first | lia | omega)⟩
theorem Room.deeper {n : Nat} {A : Around} (r : Room (n + 1) A) (env : Env) : Room n (A.deeper env) :=
  ⟨r.handled, by have := r.depth; show A.depth + 1 + n < _; (first | lia | omega), by have := r.units; show A.units + 3 + 10 * n + 100 < _; (first | lia | omega)⟩
theorem Room.in1 {n : Nat} {A : Around} (r : Room (n + 1) A) : Room n A.in1 :=
  ⟨r.handled, by have := r.depth; show A.depth + n < _; (first | lia | omega), by have := r.units; show A.units + 1 + 10 * n + 100 < _; (first | lia | omega)⟩

/-- what an evaluation leaves -/
noncomputable def Post (P : Params) (L : Env) (V : Vw) (s : Shared) (d : D) (v : Value) (s' : Shared) : Prop := ∃ V', Ext L V s V' s' ∧ Rep P V' v d
noncomputable def PostF (P : Params) (V : Vw) (s : Shared) (d : D) (v : Value) (s' : Shared) : Prop := ∃ V', ExtF V s V' s' ∧ Rep P V' v d
theorem PostF.toPost {P : Params} {V : Vw} {s s' : Shared} {d : D} {v : Value} (L : Env) (h : PostF P V s d v s') : Post P L V s d v s' := let ⟨V', x, r⟩ := h; ⟨V', x.toExt L, r⟩

section
variable (prog : Program) (w : World) (hB : Heap)
noncomputable def Ev (A : Around) (env : Env) (ρ : Nm) (e : Expr) (d : D) : Prop :=
  ∀ V s E, St w.params hB env ρ V s → wpAny (model prog w) A (eval e env) (Post w.params env V s d) E s

/-- a call of a value upon data -/
noncomputable def Fn (n : Nat) (f : Value) (ds : List D) (d : D) : Prop :=
  ∀ A V s vs E, Room n A → hB.objs.size ≤ s.heap.objs.size → (∀ a o, hB.get? a = some o → V a = some o) → Held V s → RepAll w.params V vs ds → wpAny (model prog w) A (call f vs) (PostF w.params V s d) E s
end

end Mine
namespace Mine

noncomputable abbrev KK (P : Params) : Frag := Mine.hd.heap_39 P

/-- what stands at the bottom -/
structure Gd (P : Params) (hB : Heap) : Prop where
  kin : (KK P).In hB
  top : ∃ p loose mg mb, TopRead p loose mg mb hB
  nolim : hB.NoLimit
  big : 1 < hB.objs.size

section
variable {prog : Program} {w : World} {hB : Heap} {A : Around} {env : Env} {ρ : Nm}

theorem St.stays {P : Params} {V : Vw} {s : Shared} (x : St P hB env ρ V s) : ∀ a o, hB.get? a = some o → s.heap.get? a = some o := fun a o e => x.held a o (x.base a o e)

theorem Ev.mono {ρ' : Nm} {e : Expr} {d : D} (h : Ev prog w hB A env ρ e d) (hs : ∀ y d, ρ.lookup y = some d → ρ'.lookup y = some d) : Ev prog w hB A env ρ' e d :=
  fun V s E x => h V s E (x.mono hs)

theorem Ev.int {i : Int} {k : Nat} {pos : Pos} : Ev prog w hB A env ρ (.Constant (.int i) k pos) (.int i) := fun V s _E x =>
  wpAny_Constant_int ⟨V, (ExtF.toks x.held _).toExt _, .int _ _⟩
theorem Ev.str {y : Str} {k : Nat} {pos : Pos} : Ev prog w hB A env ρ (.Constant (.str y) k pos) (.str y) := fun V s _E x =>
  Constant_str ⟨V, (ExtF.toks x.held _).toExt _, .str _ _⟩
theorem Ev.bool {b : Bool} {k : Nat} {pos : Pos} : Ev prog w hB A env ρ (.Constant (.bool b) k pos) (.bool b) := fun V s E x =>
  wpAny_Constant_bool ⟨V, Ext.refl x.held, .bool _⟩

theorem loadsTo_name {V : Vw} {s : Shared} {x : Str} {v : Value} {pos : Pos} {E : Value → Shared → Prop} {Q : Value → Shared → Prop} (hk : env.scope.kind = .function) (hd : (x == ("__debug__" : Str)) = false) (h : LoadsTo env s.heap x v)
    (hc : (x == ("__classdict__" : Str)) = false) (q : Q v s) : wpAny (model prog w) A (eval (.Name x pos) env) Q E s := by
  refine wpAny_Name ?_ hd
  rcases h with ⟨k, m, n, e⟩ | ⟨k | k, c, hcl, _, hv⟩
  · exact wpAny_loadName_local hk k n e q
  · exact wpAny_loadName_cell hk k hcl hv q
  · exact wpAny_loadName_free hk k hcl hv q hc

theorem Ev.name {x : Str} {pos : Pos} {d : D} (h : ρ.lookup x = some d) (hc : (x == ("__classdict__" : Str)) = false := by decide) : Ev prog w hB A env ρ (.Name x pos) d := fun V s E st => by
  obtain ⟨hd, v, r, l⟩ := st.names x d h
  exact loadsTo_name (V := V) st.fn hd l hc ⟨V, Ext.refl st.held, r⟩

/-- a step upon one | two values -/
noncomputable def Op1 (prog : Program) (w : World) (hB : Heap) (A : Around) (t : Value → Sem Value) (d d' : D) : Prop :=
  ∀ V s v E, (∀ a o, hB.get? a = some o → V a = some o) → Held V s → Rep w.params V v d → wpAny (model prog w) A (t v) (PostF w.params V s d') E s
noncomputable def Op2 (prog : Program) (w : World) (hB : Heap) (A : Around) (t : Value → Value → Sem Value) (d₁ d₂ d : D) : Prop :=
  ∀ V s v₁ v₂ E, (∀ a o, hB.get? a = some o → V a = some o) → Held V s → Rep w.params V v₁ d₁ → Rep w.params V v₂ d₂ → wpAny (model prog w) A (t v₁ v₂) (PostF w.params V s d) E s

theorem post_trans {P : Params} {L : Env} {V V₁ : Vw} {s s₁ s' : Shared} {d : D} {v : Value} (x : Ext L V s V₁ s₁) (h : Post P L V₁ s₁ d v s') : Post P L V s d v s' := let ⟨V', y, r⟩ := h; ⟨V', x.trans y, r⟩
theorem postF_trans {P : Params} {L : Env} {V V₁ : Vw} {s s₁ s' : Shared} {d : D} {v : Value} (x : Ext L V s V₁ s₁) (h : PostF P V₁ s₁ d v s') : Post P L V s d v s' := post_trans x (h.toPost L)

theorem Ev.bin {l r : Expr} {op : Operator} {pos : Pos} {d₁ d₂ d : D} (hl : Ev prog w hB A env ρ l d₁) (hr : Ev prog w hB A env ρ r d₂) (ho : Op2 prog w hB A (binaryOp op) d₁ d₂ d) : Ev prog w hB A env ρ (.BinOp l op r pos) d := fun V s E st => by
  refine wpAny_BinOp (wpAny_mono (hl V s E st) (fun v₁ s₁ ⟨V₁, x₁, r₁⟩ => wpAny_mono (hr V₁ s₁ E (st.ext x₁)) (fun v₂ s₂ ⟨V₂, x₂, r₂⟩ => ?_) fun _ _ e => e) fun _ _ e => e)
  have st₂ := (st.ext x₁).ext x₂
  exact wpAny_mono (ho V₂ s₂ v₁ v₂ E st₂.base st₂.held (r₁.mono x₂.le) r₂) (fun v s' h => postF_trans (x₁.trans x₂) h) fun _ _ e => e

theorem Ev.neg {e : Expr} {pos : Pos} {i : Int} (h : Ev prog w hB A env ρ e (.int i)) : Ev prog w hB A env ρ (.UnaryOp .USub e pos) (.int (-i)) := fun V s E st => by
  show wpAny _ _ (do let v ← eval e env; standAt pos; holding [v] (unaryOp .USub v)) _ _ _
  refine wpAny_bind (wpAny_mono (h V s E st) (fun v₁ s₁ ⟨V₁, x₁, r₁⟩ => wpAny_bind (wpAny_standAt (wpAny_holding ?_))) fun _ _ e => e)
  (first | refine RepAll.nilE ?_ r₁ | refine Rep.intE (fun _ => ?_) r₁ | refine Rep.strE (fun _ => ?_) r₁ | refine Rep.boolE ?_ r₁ | cases r₁)
  exact neg_int ⟨V₁, x₁.trans ((ExtF.toks (st.ext x₁).held _).toExt _), .int _ _⟩

theorem op_add {a b : Int} : Op2 prog w hB A (binaryOp .Add) (.int a) (.int b) (.int (a + b)) := fun V s v₁ v₂ E _ h r₁ r₂ => by
  (first | refine RepAll.nilE ?_ r₁ | refine Rep.intE (fun _ => ?_) r₁ | refine Rep.strE (fun _ => ?_) r₁ | refine Rep.boolE ?_ r₁ | cases r₁); (first | refine RepAll.nilE ?_ r₂ | refine Rep.intE (fun _ => ?_) r₂ | refine Rep.strE (fun _ => ?_) r₂ | refine Rep.boolE ?_ r₂ | cases r₂); exact add_int ⟨V, ExtF.toks h _, .int _ _⟩
theorem op_iadd {a b : Int} : Op2 prog w hB A (inplaceOp .Add) (.int a) (.int b) (.int (a + b)) := fun V s v₁ v₂ E _ h r₁ r₂ => by
  (first | refine RepAll.nilE ?_ r₁ | refine Rep.intE (fun _ => ?_) r₁ | refine Rep.strE (fun _ => ?_) r₁ | refine Rep.boolE ?_ r₁ | cases r₁); (first | refine RepAll.nilE ?_ r₂ | refine Rep.intE (fun _ => ?_) r₂ | refine Rep.strE (fun _ => ?_) r₂ | refine Rep.boolE ?_ r₂ | cases r₂); exact iadd_int ⟨V, ExtF.toks h _, .int _ _⟩
theorem op_sub {a b : Int} : Op2 prog w hB A (binaryOp .Sub) (.int a) (.int b) (.int (a - b)) := fun V s v₁ v₂ E _ h r₁ r₂ => by
  (first | refine RepAll.nilE ?_ r₁ | refine Rep.intE (fun _ => ?_) r₁ | refine Rep.strE (fun _ => ?_) r₁ | refine Rep.boolE ?_ r₁ | cases r₁); (first | refine RepAll.nilE ?_ r₂ | refine Rep.intE (fun _ => ?_) r₂ | refine Rep.strE (fun _ => ?_) r₂ | refine Rep.boolE ?_ r₂ | cases r₂); exact sub_int ⟨V, ExtF.toks h _, .int _ _⟩
theorem op_mod {a b : Int} (hb : b ≠ 0) : Op2 prog w hB A (binaryOp .Mod) (.int a) (.int b) (.int (a.fmod b)) := fun V s v₁ v₂ E _ h r₁ r₂ => by
  (first | refine RepAll.nilE ?_ r₁ | refine Rep.intE (fun _ => ?_) r₁ | refine Rep.strE (fun _ => ?_) r₁ | refine Rep.boolE ?_ r₁ | cases r₁); (first | refine RepAll.nilE ?_ r₂ | refine Rep.intE (fun _ => ?_) r₂ | refine Rep.strE (fun _ => ?_) r₂ | refine Rep.boolE ?_ r₂ | cases r₂); exact mod_int' hb ⟨V, ExtF.toks h _, .int _ _⟩
theorem op_div {a b : Int} (hb : b ≠ 0) (hp : Builtin.divisionGoesByPylong a b = false) : Op2 prog w hB A (binaryOp .FloorDiv) (.int a) (.int b) (.int (a.fdiv b)) := fun V s v₁ v₂ E _ h r₁ r₂ => by
  (first | refine RepAll.nilE ?_ r₁ | refine Rep.intE (fun _ => ?_) r₁ | refine Rep.strE (fun _ => ?_) r₁ | refine Rep.boolE ?_ r₁ | cases r₁); (first | refine RepAll.nilE ?_ r₂ | refine Rep.intE (fun _ => ?_) r₂ | refine Rep.strE (fun _ => ?_) r₂ | refine Rep.boolE ?_ r₂ | cases r₂); exact floordiv_int hb ⟨V, ExtF.toks h _, .int _ _⟩ (.inl hp)
theorem op_mul {a b : Int} (hm : IntMulOk a b) : Op2 prog w hB A (binaryOp .Mult) (.int a) (.int b) (.int (a * b)) := fun V s v₁ v₂ E _ h r₁ r₂ => by
  (first | refine RepAll.nilE ?_ r₁ | refine Rep.intE (fun _ => ?_) r₁ | refine Rep.strE (fun _ => ?_) r₁ | refine Rep.boolE ?_ r₁ | cases r₁); (first | refine RepAll.nilE ?_ r₂ | refine Rep.intE (fun _ => ?_) r₂ | refine Rep.strE (fun _ => ?_) r₂ | refine Rep.boolE ?_ r₂ | cases r₂); exact mul_int ⟨V, ExtF.toks h _, .int _ _⟩ hm
theorem op_pow {a n : Int} (hn : 0 ≤ n) (hn2 : n ≤ 1000000) (ha : a.natAbs < 2 ^ 64) : Op2 prog w hB A (binaryOp .Pow) (.int a) (.int n) (.int (a ^ n.toNat)) := fun V s v₁ v₂ E _ h r₁ r₂ => by
  (first | refine RepAll.nilE ?_ r₁ | refine Rep.intE (fun _ => ?_) r₁ | refine Rep.strE (fun _ => ?_) r₁ | refine Rep.boolE ?_ r₁ | cases r₁); (first | refine RepAll.nilE ?_ r₂ | refine Rep.intE (fun _ => ?_) r₂ | refine Rep.strE (fun _ => ?_) r₂ | refine Rep.boolE ?_ r₂ | cases r₂); exact pow_int_small hn hn2 ha ⟨V, ExtF.toks h _, .int _ _⟩

/-- comparisons -/
theorem Ev.cmp {l r : Expr} {op : CmpOp} {pos : Pos} {d₁ d₂ d : D} (hl : Ev prog w hB A env ρ l d₁) (hr : Ev prog w hB A env ρ r d₂) (ho : Op2 prog w hB A (compareOp op) d₁ d₂ d)
    (hm : behindInMarks op r = false := by with_unfolding_all rfl) : Ev prog w hB A env ρ (.Compare l [op] [r] pos) d := fun V s E st => by
  refine wpAny_Compare1 (wpAny_mono (hl V s E st) (fun v₁ s₁ ⟨V₁, x₁, r₁⟩ => wpAny_mono (hr V₁ s₁ E (st.ext x₁)) (fun v₂ s₂ ⟨V₂, x₂, r₂⟩ => ?_) fun _ _ e => e) fun _ _ e => e) hm
  have st₂ := (st.ext x₁).ext x₂
  exact wpAny_mono (ho V₂ s₂ v₁ v₂ E st₂.base st₂.held (r₁.mono x₂.le) r₂) (fun v s' h => postF_trans (x₁.trans x₂) h) fun _ _ e => e
theorem op_lt {a b : Int} : Op2 prog w hB A (compareOp .Lt) (.int a) (.int b) (.bool (decide (a < b))) := fun V s v₁ v₂ E _ h r₁ r₂ => by
  (first | refine RepAll.nilE ?_ r₁ | refine Rep.intE (fun _ => ?_) r₁ | refine Rep.strE (fun _ => ?_) r₁ | refine Rep.boolE ?_ r₁ | cases r₁); (first | refine RepAll.nilE ?_ r₂ | refine Rep.intE (fun _ => ?_) r₂ | refine Rep.strE (fun _ => ?_) r₂ | refine Rep.boolE ?_ r₂ | cases r₂); exact lt_int ⟨V, ExtF.refl h, .bool _⟩
theorem op_gt {a b : Int} : Op2 prog w hB A (compareOp .Gt) (.int a) (.int b) (.bool (decide (b < a))) := fun V s v₁ v₂ E _ h r₁ r₂ => by
  (first | refine RepAll.nilE ?_ r₁ | refine Rep.intE (fun _ => ?_) r₁ | refine Rep.strE (fun _ => ?_) r₁ | refine Rep.boolE ?_ r₁ | cases r₁); (first | refine RepAll.nilE ?_ r₂ | refine Rep.intE (fun _ => ?_) r₂ | refine Rep.strE (fun _ => ?_) r₂ | refine Rep.boolE ?_ r₂ | cases r₂); exact gt_int ⟨V, ExtF.refl h, .bool _⟩
theorem op_ge {a b : Int} : Op2 prog w hB A (compareOp .GtE) (.int a) (.int b) (.bool (decide (b ≤ a))) := fun V s v₁ v₂ E _ h r₁ r₂ => by
  (first | refine RepAll.nilE ?_ r₁ | refine Rep.intE (fun _ => ?_) r₁ | refine Rep.strE (fun _ => ?_) r₁ | refine Rep.boolE ?_ r₁ | cases r₁); (first | refine RepAll.nilE ?_ r₂ | refine Rep.intE (fun _ => ?_) r₂ | refine Rep.strE (fun _ => ?_) r₂ | refine Rep.boolE ?_ r₂ | cases r₂); exact ge_int ⟨V, ExtF.refl h, .bool _⟩
theorem op_eq {a b : Int} : Op2 prog w hB A (compareOp .Eq) (.int a) (.int b) (.bool (a == b)) := fun V s v₁ v₂ E _ h r₁ r₂ => by
  (first | refine RepAll.nilE ?_ r₁ | refine Rep.intE (fun _ => ?_) r₁ | refine Rep.strE (fun _ => ?_) r₁ | refine Rep.boolE ?_ r₁ | cases r₁); (first | refine RepAll.nilE ?_ r₂ | refine Rep.intE (fun _ => ?_) r₂ | refine Rep.strE (fun _ => ?_) r₂ | refine Rep.boolE ?_ r₂ | cases r₂); exact eq_int ⟨V, ExtF.refl h, .bool _⟩
theorem op_ne {a b : Int} : Op2 prog w hB A (compareOp .NotEq) (.int a) (.int b) (.bool (a != b)) := fun V s v₁ v₂ E _ h r₁ r₂ => by
  (first | refine RepAll.nilE ?_ r₁ | refine Rep.intE (fun _ => ?_) r₁ | refine Rep.strE (fun _ => ?_) r₁ | refine Rep.boolE ?_ r₁ | cases r₁); (first | refine RepAll.nilE ?_ r₂ | refine Rep.intE (fun _ => ?_) r₂ | refine Rep.strE (fun _ => ?_) r₂ | refine Rep.boolE ?_ r₂ | cases r₂); exact ne_int ⟨V, ExtF.refl h, .bool _⟩
theorem op_lt_str {a b : Str} : Op2 prog w hB A (compareOp .Lt) (.str a) (.str b) (.bool (decide (a.cps.toList < b.cps.toList))) := fun V s v₁ v₂ E _ h r₁ r₂ => by
  (first | refine RepAll.nilE ?_ r₁ | refine Rep.intE (fun _ => ?_) r₁ | refine Rep.strE (fun _ => ?_) r₁ | refine Rep.boolE ?_ r₁ | cases r₁); (first | refine RepAll.nilE ?_ r₂ | refine Rep.intE (fun _ => ?_) r₂ | refine Rep.strE (fun _ => ?_) r₂ | refine Rep.boolE ?_ r₂ | cases r₂); exact lt_str ⟨V, ExtF.refl h, .bool _⟩
theorem op_gt_str {a b : Str} : Op2 prog w hB A (compareOp .Gt) (.str a) (.str b) (.bool (decide (b.cps.toList < a.cps.toList))) := fun V s v₁ v₂ E _ h r₁ r₂ => by
  (first | refine RepAll.nilE ?_ r₁ | refine Rep.intE (fun _ => ?_) r₁ | refine Rep.strE (fun _ => ?_) r₁ | refine Rep.boolE ?_ r₁ | cases r₁); (first | refine RepAll.nilE ?_ r₂ | refine Rep.intE (fun _ => ?_) r₂ | refine Rep.strE (fun _ => ?_) r₂ | refine Rep.boolE ?_ r₂ | cases r₂); exact P.gt_str ⟨V, ExtF.refl h, .bool _⟩

/-- the parts of a display, the arguments of a call -/
noncomputable def EvL (prog : Program) (w : World) (hB : Heap) (A : Around) (env : Env) (ρ : Nm) (pos : Pos) (es : List Expr) (ds : List D) : Prop :=
  ∀ V s E, St w.params hB env ρ V s → wpAny (model prog w) A (spliced (backTo pos (starEach es env))) (fun vs s' => ∃ V', Ext env V s V' s' ∧ RepAll w.params V' vs ds) E s
theorem EvL.nil {pos : Pos} : EvL prog w hB A env ρ pos [] [] := fun V s E st => spliced_nil ⟨V, Ext.refl st.held, .nil⟩
theorem EvL.cons {pos : Pos} {e : Expr} {es : List Expr} {d : D} {ds : List D} (h : Ev prog w hB A env ρ e d) (r : EvL prog w hB A env ρ pos es ds)
    (he : starEach (e :: es) env = (false, eval e env) :: starEach es env := by rfl) : EvL prog w hB A env ρ pos (e :: es) (d :: ds) := fun V s E st => by
  rw [he]
  refine spliced_cons (wpAny_mono (h V s E st) (fun v s₁ ⟨V₁, x₁, r₁⟩ => wpAny_mono (r V₁ s₁ E (st.ext x₁)) (fun vs s₂ ⟨V₂, x₂, r₂⟩ => ⟨V₂, x₁.trans x₂, .cons (r₁.mono x₂.le) r₂⟩) fun _ _ e => e) fun _ _ e => e)

theorem Ev.tuple {pos : Pos} {k : Nat} {es : List Expr} {ds : List D} (h : EvL prog w hB A env ρ pos es ds) (hz : ds.length ≤ 1000) : Ev prog w hB A env ρ (.Tuple es k pos) (.tup ds) := fun V s E st => by
  refine Tuple_ (wpAny_mono (h V s E st) (fun vs s₁ ⟨V₁, x₁, r₁⟩ => ?_) fun _ _ e => e)
  refine wpAny_newObj_type ⟨V₁.put s₁.heap.objs.size (tupObj vs 0), x₁.trans ((ExtF.alloc x₁.held (tupObj vs 0) rfl s₁.toks).toExt _), .tup (Vw.put_self ..) (r₁.mono (Vw.le_put (Held.fresh x₁.held (Nat.le_refl _))))⟩ ?_
  show vs.toArray.size ≤ sizeLine
  rw [List.size_toArray, r₁.length, sizeLine_eq]; (first | lia | omega)
theorem Ev.list {pos : Pos} {es : List Expr} {ds : List D} (h : EvL prog w hB A env ρ pos es ds) (hz : ds.length ≤ 1000) : Ev prog w hB A env ρ (.List es pos) (.lst ds) := fun V s E st => by
  refine List_ (wpAny_mono (h V s E st) (fun vs s₁ ⟨V₁, x₁, r₁⟩ => ?_) fun _ _ e => e)
  refine wpAny_newObj_type ⟨V₁.put s₁.heap.objs.size (lstObj vs 0), x₁.trans ((ExtF.alloc x₁.held (lstObj vs 0) rfl s₁.toks).toExt _), .lst (Vw.put_self ..) (r₁.mono (Vw.le_put (Held.fresh x₁.held (Nat.le_refl _))))⟩ ?_
  show vs.toArray.size ≤ sizeLine
  rw [List.size_toArray, r₁.length, sizeLine_eq]; (first | lia | omega)
end
end Mine
namespace Mine
section
variable {prog : Program} {w : World} {hB : Heap} {A : Around} {env : Env} {ρ : Nm}

theorem isList_of {V : Vw} {s : Shared} (h : Held V s) {a : Addr} {vs : List Value} {n : Nat} (e : V a = some (lstObj vs n)) : s.heap.IsList a vs.toArray := ⟨_, h _ _ e, rfl, _, rfl⟩
theorem isTup_of {V : Vw} {s : Shared} (h : Held V s) {a : Addr} {vs : List Value} {n : Nat} (e : V a = some (tupObj vs n)) : IsTup s.heap a vs.toArray := ⟨_, h _ _ e, rfl, _, rfl⟩

/-- an item -/
theorem Ev.sub {value slice : Expr} {pos : Pos} {d₁ d₂ d : D} (hl : Ev prog w hB A env ρ value d₁) (hr : Ev prog w hB A env ρ slice d₂) (ho : Op2 prog w hB A (subscriptTail value slice) d₁ d₂ d) : Ev prog w hB A env ρ (.Subscript value slice pos) d := fun V s E st => by
  refine Subscript_ (wpAny_mono (hl V s E st) (fun v₁ s₁ ⟨V₁, x₁, r₁⟩ => wpAny_mono (hr V₁ s₁ E (st.ext x₁)) (fun v₂ s₂ ⟨V₂, x₂, r₂⟩ => ?_) fun _ _ e => e) fun _ _ e => e)
  have st₂ := (st.ext x₁).ext x₂
  exact wpAny_mono (ho V₂ s₂ v₁ v₂ E st₂.base st₂.held (r₁.mono x₂.le) r₂) (fun v s' h => postF_trans (x₁.trans x₂) h) fun _ _ e => e
theorem op_item_lst {value slice : Expr} {ds : List D} {i : Int} {d : D} (h0 : 0 ≤ i) (h2 : i < 2 ^ 63) (hd : ds[i.toNat]? = some d)
    (hs : ∀ o i, subscripted slice false o i = operate [o, i] (getItem o i) := by intro _ _; with_unfolding_all rfl) : Op2 prog w hB A (subscriptTail value slice) (.lst ds) (.int i) d := fun V s v₁ v₂ E _ h r₁ r₂ => by
  refine Rep.lstE (fun e r => ?_) r₁
  (first | refine RepAll.nilE ?_ r₂ | refine Rep.intE (fun _ => ?_) r₂ | refine Rep.strE (fun _ => ?_) r₂ | refine Rep.boolE ?_ r₂ | cases r₂)
  obtain ⟨v, hv, rv⟩ := r.get hd
  exact tail_any (isList_of h e).typeIs slot_list_getitem.lookup (wpAny_getItem_list (isList_of h e) h0 h2 (by simpa using hv) ⟨V, ExtF.refl h, rv⟩) (hs _ _)
theorem op_item_tup {value slice : Expr} {ds : List D} {i : Int} {d : D} (h0 : 0 ≤ i) (h2 : i < 2 ^ 63) (hd : ds[i.toNat]? = some d)
    (hs : ∀ o i, subscripted slice false o i = operate [o, i] (getItem o i) := by intro _ _; with_unfolding_all rfl) : Op2 prog w hB A (subscriptTail value slice) (.tup ds) (.int i) d := fun V s v₁ v₂ E _ h r₁ r₂ => by
  refine Rep.tupE (fun e r => ?_) r₁
  (first | refine RepAll.nilE ?_ r₂ | refine Rep.intE (fun _ => ?_) r₂ | refine Rep.strE (fun _ => ?_) r₂ | refine Rep.boolE ?_ r₂ | cases r₂)
  obtain ⟨v, hv, rv⟩ := r.get hd
  have hlt : i.toNat < ds.length := (List.getElem?_eq_some_iff.mp hd).1
  refine tail_any (isTup_of h e).typeIs slot_tuple_getitem.lookup (getItem_tuple (isTup_of h e) (by (first | lia | omega)) h2 (j := i.toNat) ?_ (by simpa using hv) ⟨V, ExtF.refl h, rv⟩) (hs _ _)
  unfold seqIndex?
  rw [List.size_toArray, r.length]
  simp only [show ¬ i < 0 by (first | lia | omega), if_false]
  rw [if_pos (by simp; (first | lia | omega))]
theorem op_item_str {value slice : Expr} {x : Str} {i : Int} {c : Nat} (h0 : 0 ≤ i) (h2 : i < 2 ^ 63) (hd : x.cps[i.toNat]? = some c)
    (hs : ∀ o i, subscripted slice false o i = operate [o, i] (getItem o i) := by intro _ _; with_unfolding_all rfl) : Op2 prog w hB A (subscriptTail value slice) (.str x) (.int i) (.str ⟨#[c]⟩) := fun V s v₁ v₂ E _ h r₁ r₂ => by
  (first | refine RepAll.nilE ?_ r₁ | refine Rep.intE (fun _ => ?_) r₁ | refine Rep.strE (fun _ => ?_) r₁ | refine Rep.boolE ?_ r₁ | cases r₁); (first | refine RepAll.nilE ?_ r₂ | refine Rep.intE (fun _ => ?_) r₂ | refine Rep.strE (fun _ => ?_) r₂ | refine Rep.boolE ?_ r₂ | cases r₂)
  refine tail_any (typeIs_str s x _) slot_str_getitem.lookup (getItem_str (by simp; (first | lia | omega)) ?_ ⟨V, ExtF.toks h _, .str _ _⟩) (hs _ _)
  have hlt : i.toNat < x.cps.size := (Array.getElem?_eq_some_iff.mp hd).1
  unfold seqIndex?
  simp only [show ¬ i < 0 by (first | lia | omega), if_false]
  rw [if_pos (by have hz : x.length = x.cps.size := rfl
                 simp only [Bool.and_eq_true, decide_eq_true_eq]; rw [hz]; (first | lia | omega))]
  exact hd

/-- a slice of a list -/
theorem Ev.part {value : Expr} {lower upper : Option Expr} {p pos : Pos} {ds : List D} {lo hi : Option Int}
    (hv : Ev prog w hB A env ρ value (.lst ds)) (hl : ∀ V s E, St w.params hB env ρ V s → wpAny (model prog w) A (evalPart lower env) (fun v s' => ∃ V', Ext env V s V' s' ∧ IsPart v lo) E s)
    (hu : ∀ V s E, St w.params hB env ρ V s → wpAny (model prog w) A (evalPart upper env) (fun v s' => ∃ V', Ext env V s V' s' ∧ IsPart v hi) E s) (hz : ds.length ≤ 1000000)
    (ht : ∀ o r, letTemporaryGo value o r = pure () := by intro _ _; rfl) : Ev prog w hB A env ρ (.Subscript value (.Slice lower upper none p) pos) (.lst ((ds.drop (kms_lo lo ds.length)).take (kms_hi hi ds.length - kms_lo lo ds.length))) := fun V s E st => by
  refine wpAny_Subscript_list_slice (wpAny_mono (hv V s E st) (fun v₁ s₁ ⟨V₁, x₁, r₁⟩ => wpAny_mono (hl V₁ s₁ E (st.ext x₁)) (fun v₂ s₂ ⟨V₂, x₂, r₂⟩ => wpAny_mono (hu V₂ s₂ E ((st.ext x₁).ext x₂)) (fun v₃ s₃ ⟨V₃, x₃, r₃⟩ => ?_) fun _ _ e => e) fun _ _ e => e) fun _ _ e => e) ht
  have x := (x₁.trans x₂).trans x₃
  refine Rep.lstE (fun {a vs n} e r => ?_) r₁
  have e₃ := x₃.le _ _ (x₂.le _ _ e)
  have r' := r.mono (x₂.le.trans x₃.le)
  refine ⟨a, vs.toArray, lo, hi, rfl, isList_of x.held e₃, by rw [List.size_toArray, r.length, sizeLine_eq]; (first | lia | omega), r₂, r₃, ?_⟩
  have y := ExtF.alloc x.held { cls := .type "slice", data := .fields #[v₂, v₃, .none] } rfl s₃.toks
  have z := ExtF.alloc y.held (lstObj (((vs.drop (kms_lo lo vs.length)).take (kms_hi hi vs.length - kms_lo lo vs.length))) 0) rfl s₃.toks
  have q := kms_pick_eq vs.toArray lo hi
  have yz := y.trans z
  rw [q]
  refine ⟨_, x.trans (yz.toExt _), .lst (n := 0) (vs := ((vs.drop (kms_lo lo vs.length)).take (kms_hi hi vs.length - kms_lo lo vs.length))) ?_ ?_⟩
  · have := Vw.put_self (V₃.put s₃.heap.objs.size { cls := .type "slice", data := .fields #[v₂, v₃, .none] }) (s₃.heap.objs.size + 1) (lstObj (((vs.drop (kms_lo lo vs.length)).take (kms_hi hi vs.length - kms_lo lo vs.length))) 0)
    simpa using this
  · rw [← r.length]
    exact ((r'.drop _).take _).mono yz.le
theorem part_none (V : Vw) (s : Shared) (E : Value → Shared → Prop) (st : St w.params hB env ρ V s) : wpAny (model prog w) A (evalPart none env) (fun v s' => ∃ V', Ext env V s V' s' ∧ IsPart v none) E s :=
  wpAny_evalPart_none ⟨V, Ext.refl st.held, .none⟩
theorem part_some {e : Expr} {i : Int} (h : Ev prog w hB A env ρ e (.int i)) (V : Vw) (s : Shared) (E : Value → Shared → Prop) (st : St w.params hB env ρ V s) : wpAny (model prog w) A (evalPart (some e) env) (fun v s' => ∃ V', Ext env V s V' s' ∧ IsPart v (some i)) E s :=
  wpAny_evalPart_some (wpAny_mono (h V s E st) (fun v s' ⟨V', x, r⟩ => ⟨V', x, by (first | refine RepAll.nilE ?_ r | refine Rep.intE (fun _ => ?_) r | refine Rep.strE (fun _ => ?_) r | refine Rep.boolE ?_ r | cases r); exact .int _ _⟩) fun _ _ e => e)

/-- a name of the module's | of the built-ins -/
noncomputable def EvV (prog : Program) (w : World) (hB : Heap) (A : Around) (env : Env) (e : Expr) (f : Value) : Prop :=
  ∀ V s ρ (E : Value → Shared → Prop) (Q : Value → Shared → Prop), St w.params hB env ρ V s → Q f s → wpAny (model prog w) A (eval e env) Q E s
theorem EvV.glob (G : Gd w.params hB) {x : Str} {pos : Pos} {v : Value} (e : nsIn (KK w.params) mainGlobals x = some (some v)) (hx : env.kindOf x = some .globalImplicit := by rfl)
    (hd : (x == ("__debug__" : Str)) = false := by decide) : EvV prog w hB A env (.Name x pos) v := fun V s ρ E Q st q => by
  obtain ⟨p, loose, mg, mb, T⟩ := G.top
  refine Name_function_global st.fn hx (loadGlobal_global (mg := mg) ?_ (mg_of G.kin T.g e) q) hd
  rw [st.glob]; exact T.g.keeps st.stays
theorem EvV.blt (G : Gd w.params hB) {x : Str} {pos : Pos} {v : Value} (e : nsIn (KK w.params) mainGlobals x = some none) (hv : bootBuiltins x = some v) (hn : x ≠ "__name__" := by decide) (hx : env.kindOf x = some .globalImplicit := by rfl)
    (hd : (x == ("__debug__" : Str)) = false := by decide) : EvV prog w hB A env (.Name x pos) v := fun V s ρ E Q st q => by
  obtain ⟨p, loose, mg, mb, T⟩ := G.top
  refine Name_function_global st.fn hx (loadGlobal_builtin (mg := mg) (mb := mb) ?_ (mg_none_of G.kin T.g e) ?_ ((T.builtins x hn).trans hv) q) hd
  · rw [st.glob]; exact T.g.keeps st.stays
  · rw [st.blt]; exact T.b.keeps st.stays

/-- what keeps a call's frame -/
noncomputable def Kept (w : World) (prog : Program) (hB : Heap) (f : Value) : Prop := ∀ h : Heap, (∀ a o, hB.get? a = some o → h.get? a = some o) → ∃ k, (k = Keeper.frame ∨ k = Keeper.machine ∨ k = Keeper.boundFrame) ∧ Looks (model prog w) h (keeperOf f) k
theorem kept_blt {id : String} : Kept w prog hB (.builtin id) := fun h _ => ⟨.machine, .inr (.inl rfl), Looks.of_pure rfl⟩
theorem kept_type {id : String} : Kept w prog hB (.type id) := fun h _ => ⟨.machine, .inr (.inl rfl), Looks.of_pure rfl⟩
theorem kept_K (G : Gd w.params hB) {f : Value} (hk : keepIn (KK w.params) f = true) : Kept w prog hB f := fun h hh => keeps_K hk h (G.kin.keeps hh)

theorem callWith_ev {pos : Pos} {f : Value} {first : List Value} {e : Expr} {es : List Expr} {ds : List D} {Q : Value → Shared → Prop} {V : Vw} {s : Shared} {E : Value → Shared → Prop} (st : St w.params hB env ρ V s) (hk : Kept w prog hB f) (ha : EvL prog w hB A env ρ pos (e :: es) ds)
    (h : ∀ vs V₁ s₁, Ext env V s V₁ s₁ → RepAll w.params V₁ vs ds → wpAny (model prog w) A (call f (first ++ vs)) Q E s₁)
    (he : starEach (e :: es) env = (false, eval e env) :: starEach es env := by rfl) (hplain : (backTo pos (starEach es env)).any (·.1) = false := by rfl) :
    wpAny (model prog w) A (callWith pos f first (backTo pos (starEach (e :: es) env)) []) Q E s := by
  have ha' := ha V s E st
  rw [he] at ha' ⊢
  refine callWith_of (P := fun h => ∀ a o, hB.get? a = some o → h.get? a = some o) (by show ((false || (backTo pos (starEach es env)).any (·.1)) || false) = false; rw [hplain]; rfl) hk (evalArgs_plain ?_)
  refine wpAny_mono ha' (fun vs s₁ ⟨V₁, x₁, r₁⟩ => ⟨(st.ext x₁).stays, h vs V₁ s₁ x₁ r₁⟩) fun _ _ e => e
theorem callWith_ev0 {pos : Pos} {f : Value} {first : List Value} {Q : Value → Shared → Prop} {V : Vw} {s : Shared} {E : Value → Shared → Prop} (st : St w.params hB env ρ V s) (hk : Kept w prog hB f)
    (h : wpAny (model prog w) A (call f (first ++ [])) Q E s) : wpAny (model prog w) A (callWith pos f first (backTo pos (starEach [] env)) []) Q E s :=
  callWith_of (P := fun h => ∀ a o, hB.get? a = some o → h.get? a = some o) rfl hk (evalArgs_nil3 ⟨st.stays, h⟩)

/-- a call of a named def upon data -/
theorem Ev.call {x : Str} {np pos : Pos} {e : Expr} {es : List Expr} {f : Value} {ds : List D} {d : D} {n : Nat} (hf : EvV prog w hB A env (.Name x np) f) (hk : Kept w prog hB f) (ha : EvL prog w hB A env ρ pos (e :: es) ds) (hR : Room n A) (hc : Fn prog w hB n f ds d)
    (he : starEach (e :: es) env = (false, eval e env) :: starEach es env := by rfl) (hplain : (backTo pos (starEach es env)).any (·.1) = false := by rfl) : Ev prog w hB A env ρ (.Call (.Name x np) (e :: es) [] pos) d := fun V s E st => by
  refine wpAny_Call_NameR (hf V s ρ E _ st ?_)
  refine callWith_ev st hk ha (fun vs V₁ s₁ x₁ r₁ => ?_) he hplain
  have st₁ := st.ext x₁
  exact wpAny_mono (hc A V₁ s₁ vs E hR st₁.low st₁.base st₁.held r₁) (fun v s' h => postF_trans x₁ h) fun _ _ e => e
end
end Mine
namespace Mine

/-- what the call still changes: a dict | a list | a list of lists of ints -/
inductive Mu where
  | dct (kvs : List (Str × Int))
  | lst (ds : List D)
  | grid (rows : List (List Int))
  | tab (ps : List (Nat × Nat))

/-- a table of code objects by their places -/
inductive TabIs : List Value → List (Nat × Nat) → Prop
  | nil : TabIs [] []
  | cons {l c : Nat} {t u : Tok} {v : Value} {vs : List Value} {ps : List (Nat × Nat)} : TabIs vs ps → TabIs (.int l t :: .int c u :: v :: vs) ((l, c) :: ps)

inductive Out where
  | ret (d : D)
  | next (ρ : Nm) (μ : List (Str × Mu))

inductive GridIn (h : Heap) : List Addr → List (List Int) → Prop
  | nil : GridIn h [] []
  | cons {b : Addr} {vs : List Value} {n : Nat} {is : List Int} {bs : List Addr} {rows : List (List Int)} : h.get? b = some (lstObj vs n) → IntsAre vs is → GridIn h bs rows → GridIn h (b :: bs) (is :: rows)

inductive MuOk (P : Params) (V : Vw) (h : Heap) : Addr → List Addr → Mu → Prop
  | dct {a : Addr} {es : List DictEntry} {n : Nat} {kvs : List (Str × Int)} : (a == sysModules) = false → h.get? a = some (dictOf es n) → DEnt P es kvs → (kvs.map (·.1)).Nodup → MuOk P V h a [] (.dct kvs)
  | lst {a : Addr} {vs : List Value} {n : Nat} {ds : List D} : h.get? a = some (lstObj vs n) → RepAll P V vs ds → MuOk P V h a [] (.lst ds)
  | grid {a : Addr} {bs : List Addr} {n : Nat} {rows : List (List Int)} : h.get? a = some (lstObj (bs.map .ref) n) → GridIn h bs rows → MuOk P V h a bs (.grid rows)
  | tab {a : Addr} {vs : List Value} {ps : List (Nat × Nat)} : h.get? a = some { cls := .none, data := .fields vs.toArray } → TabIs vs ps → MuOk P V h a [] (.tab ((a, 0) :: ps))

/-- a handle without a name -/
noncomputable def anon : Str := Str.ofString ""

inductive MuAll (P : Params) (V : Vw) (env : Env) (h : Heap) : List (Str × Mu) → List (List Addr) → Prop
  | nil : MuAll P V env h [] []
  | cons {x : Str} {a : Addr} {bs : List Addr} {m : Mu} {μ : List (Str × Mu)} {F : List (List Addr)} : (x == ("__debug__" : Str)) = false → (x ≠ anon → LoadsTo env h x (.ref a)) → MuOk P V h a bs m → MuAll P V env h μ F → MuAll P V env h ((x, m) :: μ) ((a :: bs) :: F)

theorem GridIn.mono {h h' : Heap} {bs : List Addr} {rows : List (List Int)} (g : GridIn h bs rows) : (∀ b ∈ bs, ∀ o, h.get? b = some o → h'.get? b = some o) → GridIn h' bs rows := by
  induction g with
  | nil => exact fun _ => .nil
  | cons e i _ ih => exact fun k => .cons (k _ (.head _) _ e) i (ih fun b hb => k b (.tail _ hb))
theorem MuOk.mono {P : Params} {V V' : Vw} {h h' : Heap} {a : Addr} {bs : List Addr} {m : Mu} (x : MuOk P V h a bs m) (hV : V.le V') (k : ∀ b ∈ a :: bs, ∀ o, h.get? b = some o → h'.get? b = some o) : MuOk P V' h' a bs m := by
  cases x with
  | dct z e i n => exact .dct z (k _ (.head _) _ e) i n
  | lst e r => exact .lst (k _ (.head _) _ e) (r.mono hV)
  | grid e r => exact .grid (k _ (.head _) _ e) (r.mono fun b hb => k b (.tail _ hb))
  | tab e i => exact .tab (k _ (.head _) _ e) i

noncomputable def Own (env : Env) (a : Addr) : Prop := (a = env.locals ∨ env.frame = some a) ∨ ∃ x, env.cells.lookup x = some a ∧ env.locals < a
noncomputable def Frm (env : Env) (a : Addr) : Prop := (a = env.locals ∨ env.frame = some a) ∨ ∃ x, env.cells.lookup x = some a
theorem Own.frm {env : Env} {a : Addr} (h : Own env a) : Frm env a := h.imp id fun ⟨x, e, _⟩ => ⟨x, e⟩

/-- new objects, what is the frame's own, and what it changes -/
structure ExtS (env : Env) (F : List (List Addr)) (V : Vw) (s : Shared) (V' : Vw) (s' : Shared) : Prop where
  same : ∃ h' tk, s' = { s with heap := h', toks := tk }
  keep : ∀ a o, ¬ Own env a → a ∉ F.flatten → s.heap.get? a = some o → s'.heap.get? a = some o
  le : V.le V'
  new : ∀ a o, V' a = some o → V a = some o ∨ a ∈ F.flatten ∨ Own env a ∨ s.heap.get? a = none
  held : ∀ a o, V' a = some o → s'.heap.get? a = some o
  nsF : ∀ f m, env.frame = some f → f ≠ env.locals → s.heap.Ns f m → s'.heap.Ns f m
open Classical in
theorem ExtS.back {env : Env} {F : List (List Addr)} {V V' : Vw} {s s' : Shared} (x : ExtS env F V s V' s') {a : Addr} (e : s'.heap.get? a = none) : a ∈ F.flatten ∨ Own env a ∨ s.heap.get? a = none := by
  by_cases h1 : a ∈ F.flatten
  · exact .inl h1
  · by_cases h2 : Own env a
    · exact .inr (.inl h2)
    · exact .inr (.inr (get_none_back (fun o q => ⟨o, x.keep a o h2 h1 q⟩) e))
theorem ExtS.trans {env : Env} {F F' : List (List Addr)} {V V' V'' : Vw} {s s' s'' : Shared} (x : ExtS env F V s V' s') (hF : ∀ a ∈ F'.flatten, a ∈ F.flatten ∨ Own env a ∨ s.heap.get? a = none) (y : ExtS env F' V' s' V'' s'') : ExtS env F V s V'' s'' :=
  ⟨by obtain ⟨h1, t1, e1⟩ := x.same; obtain ⟨h2, t2, e2⟩ := y.same; exact ⟨h2, t2, by rw [e2, e1]⟩,
    fun a o n m e => y.keep a o n (fun q => (hF a q).elim m fun q => q.elim n fun q => by exact no q e) (x.keep a o n m e),
    x.le.trans y.le, fun a o e => (y.new a o e).elim (fun e => x.new a o e) fun e => e.elim (fun e => .inr (hF a e)) fun e => .inr (e.elim (fun e => .inr (.inl e)) fun e => x.back e), y.held, fun f m hf hne n => y.nsF f m hf hne (x.nsF f m hf hne n)⟩
theorem Ext.toS {env : Env} {F : List (List Addr)} {V V' : Vw} {s s' : Shared} (x : Ext env V s V' s') : ExtS env F V s V' s' :=
  ⟨x.same, fun a o n _ e => x.keep a o (fun q => n (.inl (.inl q))) (fun q => n (.inl (.inr q))) e, x.le, fun a o e => (x.new a o e).imp id fun q => .inr (.inr q), x.held, fun f m hf _ n => x.nsF f m hf n⟩
theorem ExtS.refl {env : Env} {F : List (List Addr)} {V : Vw} {s : Shared} (h : Held V s) : ExtS env F V s V s := (Ext.refl h).toS

structure StM (P : Params) (hB : Heap) (env : Env) (ρ : Nm) (μ : List (Str × Mu)) (F : List (List Addr)) (V : Vw) (s : Shared) : Prop where
  st : St P hB env ρ V s
  mu : MuAll P V env s.heap μ F
  nd : F.flatten.Nodup
  off : ∀ a ∈ F.flatten, V a = none ∧ (a ≠ env.locals ∧ env.frame ≠ some a) ∧ ∀ x c, env.cells.lookup x = some c → c ≠ a

theorem GridIn.lt {h : Heap} {a : Addr} {bs : List Addr} {rows : List (List Int)} (g : GridIn h bs rows) : a ∈ bs → ∃ o, h.get? a = some o := by
  induction g with
  | nil => exact nofun
  | cons e _ _ ih => exact fun q => (List.mem_cons.mp q).elim (fun q => ⟨_, q ▸ e⟩) ih
theorem MuOk.lt {P : Params} {V : Vw} {h : Heap} {a b : Addr} {bs : List Addr} {m : Mu} (x : MuOk P V h b bs m) : a ∈ b :: bs → ∃ o, h.get? a = some o := by
  cases x with
  | dct _ e _ _ => exact fun ha => ⟨_, List.mem_singleton.mp ha ▸ e⟩
  | lst e _ => exact fun ha => ⟨_, List.mem_singleton.mp ha ▸ e⟩
  | tab e _ => exact fun ha => ⟨_, List.mem_singleton.mp ha ▸ e⟩
  | grid e g => exact fun ha => (List.mem_cons.mp ha).elim (fun q => ⟨_, q ▸ e⟩) g.lt
theorem MuAll.lt {P : Params} {V : Vw} {env : Env} {h : Heap} {μ : List (Str × Mu)} {F : List (List Addr)} (m : MuAll P V env h μ F) : ∀ a ∈ F.flatten, ∃ o, h.get? a = some o := by
  induction m with
  | nil => exact fun a ha => absurd ha (by simp)
  | cons _ _ m _ ih => exact fun a ha => (List.mem_append.mp (List.flatten_cons ▸ ha)).elim m.lt (ih a)

theorem MuAll.ext {P : Params} {env : Env} {V V' : Vw} {s s' : Shared} (y : Ext env V s V' s') (hf : ∀ f, env.frame = some f → V f = none ∧ ∃ m, s.heap.Ns f m) {μ : List (Str × Mu)} {F : List (List Addr)} (m : MuAll P V env s.heap μ F) : (∀ a ∈ F.flatten, a ≠ env.locals ∧ env.frame ≠ some a) → MuAll P V' env s'.heap μ F := by
  induction m with
  | nil => exact fun _ => .nil
  | cons d l m _ ih => exact fun h => .cons d (fun hx => (l hx).ext y hf) (m.mono y.le fun b hb o e => y.keep b o (h b (inF hb)).1 (h b (inF hb)).2 e) (ih fun a ha => h a (inT ha))

theorem MuAll.lstAt {P : Params} {V : Vw} {env : Env} {h : Heap} {x : Str} {ds : List D} {μ : List (Str × Mu)} {a : Addr} {bs : List Addr} {F : List (List Addr)} (m : MuAll P V env h ((x, .lst ds) :: μ) ((a :: bs) :: F)) : ∃ vs n, bs = [] ∧ h.get? a = some (lstObj vs n) ∧ RepAll P V vs ds := by
  cases m with
  | cons _ _ hm _ => cases hm with
    | lst e r => exact ⟨_, _, rfl, e, r⟩
theorem MuAll.dctAt {P : Params} {V : Vw} {env : Env} {h : Heap} {x : Str} {kvs : List (Str × Int)} {μ : List (Str × Mu)} {a : Addr} {bs : List Addr} {F : List (List Addr)} (m : MuAll P V env h ((x, .dct kvs) :: μ) ((a :: bs) :: F)) : ∃ es n, bs = [] ∧ (a == sysModules) = false ∧ h.get? a = some (dictOf es n) ∧ DEnt P es kvs ∧ (kvs.map (·.1)).Nodup := by
  cases m with
  | cons _ _ hm _ => cases hm with
    | dct z e i n => exact ⟨_, _, rfl, z, e, i, n⟩
theorem MuAll.gridAt {P : Params} {V : Vw} {env : Env} {h : Heap} {x : Str} {rows : List (List Int)} {μ : List (Str × Mu)} {a : Addr} {bs : List Addr} {F : List (List Addr)} (m : MuAll P V env h ((x, .grid rows) :: μ) ((a :: bs) :: F)) : ∃ n, h.get? a = some (lstObj (bs.map .ref) n) ∧ GridIn h bs rows := by
  cases m with
  | cons _ _ hm _ => cases hm with
    | grid e g => exact ⟨_, e, g⟩
theorem StM.ext {P : Params} {hB : Heap} {env : Env} {ρ : Nm} {μ : List (Str × Mu)} {F : List (List Addr)} {V V' : Vw} {s s' : Shared} (x : StM P hB env ρ μ F V s) (y : Ext env V s V' s') : StM P hB env ρ μ F V' s' where
  st := x.st.ext y
  mu := MuAll.ext y x.st.frm x.mu fun a ha => (x.off a ha).2.1
  nd := x.nd
  off := fun a ha => by
    obtain ⟨h1, h2, h3⟩ := x.off a ha
    refine ⟨?_, h2, h3⟩
    cases e : V' a with
    | none => rfl
    | some o => rcases y.new a o e with q | q
                · exact no h1 q
                · obtain ⟨o', ho'⟩ := x.mu.lt a ha
                  rw [q] at ho'; cases ho'
theorem St.fresh {P : Params} {hB : Heap} {env : Env} {ρ : Nm} {V : Vw} {s : Shared} (st : St P hB env ρ V s) {b : Addr} (h : s.heap.get? b = none) : ¬ Frm env b
  | .inl (.inl q) => let ⟨_, _, _, _, ho, _⟩ := st.ns; no (q ▸ h) ho
  | .inl (.inr q) => let ⟨_, _, _, _, _, ho, _⟩ := st.frm b q; no h ho
  | .inr ⟨x, q⟩ => let ⟨_, _, _, _, _, ho, _⟩ := st.cell x b q; no h ho
theorem StM.fresh {P : Params} {hB : Heap} {env : Env} {ρ : Nm} {μ : List (Str × Mu)} {F : List (List Addr)} {V : Vw} {s : Shared} (st : StM P hB env ρ μ F V s) {b : Addr} (h : s.heap.get? b = none) : b ∉ F.flatten := fun q => let ⟨_, ho⟩ := st.mu.lt b q; no h ho
theorem StM.mono {P : Params} {hB : Heap} {env : Env} {ρ ρ' : Nm} {μ : List (Str × Mu)} {F : List (List Addr)} {V : Vw} {s : Shared} (x : StM P hB env ρ μ F V s) (h : ∀ y d, ρ'.lookup y = some d → ρ.lookup y = some d) : StM P hB env ρ' μ F V s :=
  ⟨x.st.mono h, x.mu, x.nd, x.off⟩

noncomputable def OutOk (P : Params) (hB : Heap) (env : Env) (F : List (List Addr)) (h : Heap) (V' : Vw) (s' : Shared) (f : Flow) : Out → Prop
  | .ret d => ∃ v, f = .ret v ∧ Rep P V' v d
  | .next ρ' μ' => f = .next ∧ ∃ F', (∀ a ∈ F'.flatten, a ∈ F.flatten ∨ Own env a ∨ h.get? a = none) ∧ StM P hB env ρ' μ' F' V' s'

noncomputable def SPost (P : Params) (hB : Heap) (env : Env) (F : List (List Addr)) (V : Vw) (s : Shared) (o : Out) (f : Flow) (s' : Shared) : Prop := ∃ V', ExtS env F V s V' s' ∧ OutOk P hB env F s.heap V' s' f o

noncomputable def Ex1 (prog : Program) (w : World) (hB : Heap) (A : Around) (env : Env) (ρ : Nm) (μ : List (Str × Mu)) (st : Stmt) (o : Out) : Prop :=
  ∀ F V s E, StM w.params hB env ρ μ F V s → wpAny (model prog w) A (exec st env) (SPost w.params hB env F V s o) E s
noncomputable def Ex (prog : Program) (w : World) (hB : Heap) (A : Around) (env : Env) (ρ : Nm) (μ : List (Str × Mu)) (ss : List Stmt) (o : Out) : Prop :=
  ∀ F V s E, StM w.params hB env ρ μ F V s → wpAny (model prog w) A (execs ss env) (SPost w.params hB env F V s o) E s

theorem ns_unique {h : Heap} {a : Addr} {m m' : Str → Option Value} (x : h.Ns a m) (y : h.Ns a m') : m = m' := by
  obtain ⟨o, es, ep, ho, hd, _, hf⟩ := x
  obtain ⟨o', es', ep', ho', hd', _, hf'⟩ := y
  rw [ho] at ho'; cases ho'
  rw [hd] at hd'; cases hd'
  funext n; rw [← hf, ← hf']

noncomputable def Storable (env : Env) (x : Str) : Prop := (x == ("__debug__" : Str)) = false ∧ (env.kindOf x = some .local ∨ (env.kindOf x = some .cell ∧ ∃ c, env.cells.lookup x = some c ∧ env.locals < c))

section
variable {prog : Program} {w : World} {hB : Heap} {A : Around} {env : Env} {ρ : Nm} {μ : List (Str × Mu)}

theorem lookup_cons_of {x y : Str} {d d' : D} (h : ((x, d) :: ρ).lookup y = some d') : (y = x ∧ d' = d) ∨ (y ≠ x ∧ ρ.lookup y = some d') := by
  rw [List.lookup_cons] at h
  by_cases q : y = x
  · subst q; simp at h; exact .inl ⟨rfl, h.symm⟩
  · have : (y == x) = false := beq_eq_false_iff_ne.mpr q
    rw [this] at h; exact .inr ⟨q, h⟩

/-- a name is stored: what is behind it -/
theorem store_any {V : Vw} {s : Shared} {x : Str} {v : Value} {E : Value → Shared → Prop} (st : St w.params hB env ρ V s) (hx : Storable env x) {Q : Unit → Shared → Prop}
    (hQ : ∀ s' W, Own env W → (∃ h' tk, s' = { s with heap := h', toks := tk }) → Heap.SameBut W s.heap s'.heap → V W = none → LoadsTo env s'.heap x v → (∀ y u, y ≠ x → LoadsTo env s.heap y u → LoadsTo env s'.heap y u) →
      (∃ m, s'.heap.Ns env.locals m) → (∀ y c, env.cells.lookup y = some c → ∃ u, s'.heap.IsCell c u) → (W = env.locals ∨ ∃ y, env.cells.lookup y = some W) → (∀ f, env.frame = some f → ∃ m, s'.heap.Ns f m) → Q () s') : wpAny (model prog w) A (storeName env x v) Q E s := by
  obtain ⟨hdb, hk | ⟨hk, c, hc, hlt⟩⟩ := hx
  · obtain ⟨m, hn⟩ := st.ns
    refine wpAny_storeName_local hk hn (fun h' hn' hs' => hQ _ env.locals (.inl (.inl rfl)) ⟨_, _, rfl⟩ hs' st.locV (.inl ⟨hk, _, hn', by simp⟩) (fun y u hne l => ?_) ⟨_, hn'⟩ (fun y c hc => ?_) (.inl rfl) (fun f hf => ?_)) (by rw [st.fn]; rfl)
    · rcases l with ⟨k, m', n', e'⟩ | ⟨k, c, hc, hcl, hv⟩
      · exact .inl ⟨k, _, hn', by rw [if_neg hne, ns_unique hn n']; exact e'⟩
      · exact .inr ⟨k, c, hc, hcl, hv.sameBut hs' hcl⟩
    · obtain ⟨h1, h2, h3, v', hv'⟩ := st.cell y c hc
      exact ⟨v', hv'.sameBut hs' h2⟩
    · by_cases q : f = env.locals
      · subst q; exact ⟨_, hn'⟩
      · obtain ⟨_, m', n'⟩ := st.frm f hf
        exact ⟨m', n'.sameBut hs' q⟩
  · have hmem := mem_of_lookup hc
    obtain ⟨h1, h2, h3, v₀, hv₀⟩ := st.cell x c hc
    refine wpAny_storeName_cell st.fn hk hc hv₀ (fun h' hc' hs' => hQ _ c (.inr ⟨x, hc, hlt⟩) ⟨_, _, rfl⟩ hs' h1 (.inr ⟨.inl hk, c, hc, h2, hc'⟩) (fun y u hne l => ?_) (let ⟨m, n⟩ := st.ns; ⟨m, n.sameBut hs' (Ne.symm h2)⟩) (fun y c' hy => ?_) (.inr ⟨x, hc⟩) (fun f hf => ?_))
    · rcases l with ⟨k, m', n', e'⟩ | ⟨k, c', hc₁, hcl, hv⟩
      · exact .inl ⟨k, m', n'.sameBut hs' (Ne.symm h2), e'⟩
      · refine .inr ⟨k, c', hc₁, hcl, hv.sameBut hs' fun q => hne ?_⟩
        subst q
        exact name_of_addr st.apart (mem_of_lookup hc₁) hmem
    · obtain ⟨g1, g2, g3, v', hv'⟩ := st.cell y c' hy
      by_cases q : c' = c
      · subst q; exact ⟨_, hc'⟩
      · exact ⟨v', hv'.sameBut hs' q⟩
    · obtain ⟨_, m', n'⟩ := st.frm f hf
      exact ⟨m', n'.sameBut hs' (Ne.symm (cell_not_ns hv₀ n'))⟩

theorem muAll_store {P : Params} {V : Vw} {s s' : Shared} {x : Str} {W : Addr} (hs : Heap.SameBut W s.heap s'.heap) (hl : ∀ y u, y ≠ x → LoadsTo env s.heap y u → LoadsTo env s'.heap y u)
    {μ : List (Str × Mu)} {F : List (List Addr)} (m : MuAll P V env s.heap μ F) : (∀ p ∈ μ, p.1 ≠ x) → (∀ a ∈ F.flatten, a ≠ W) → MuAll P V env s'.heap μ F := by
  induction m with
  | nil => exact fun _ _ => .nil
  | cons d l m _ ih => exact fun h k => .cons d (fun hx => hl _ _ (h _ (.head _)) (l hx)) (m.mono V.le_refl fun b hb o e => hs.extBut b o (k b (inF hb)) e) (ih (fun p hp => h p (.tail _ hp)) fun a ha => k a (inT ha))

/-- a datum is stored under a name -/
theorem store_ok {F : List (List Addr)} {V : Vw} {s : Shared} {x : Str} {v : Value} {d : D} {E : Value → Shared → Prop} (st : StM w.params hB env ρ μ F V s) (hx : Storable env x) (hm : ∀ p ∈ μ, p.1 ≠ x) (r : Rep w.params V v d) {Q : Unit → Shared → Prop}
    (hQ : ∀ s', ExtS env F V s V s' → StM w.params hB env ((x, d) :: ρ) μ F V s' → Q () s') : wpAny (model prog w) A (storeName env x v) Q E s := by
  refine store_any st.st hx fun s' W hW hsame hs' hVW hl hls hns hcs hWk hfr => hQ s' ⟨hsame, fun a o n _ e => hs'.extBut a o (fun q => n (q ▸ hW)) e, V.le_refl, fun _ _ e => .inl e, fun a o e => ?_, fun f m hf hne n => n.sameBut hs' (by
    rcases hWk with e | ⟨y, e⟩
    · rw [e]; exact hne
    · obtain ⟨_, _, _, _, hc⟩ := st.st.cell y W e
      exact Ne.symm (cell_not_ns hc n))⟩ ?_
  · exact hs'.extBut a o (ne_none hVW e) (st.st.held a o e)
  · refine ⟨{ base := st.st.base, held := fun a o e => hs'.extBut a o (ne_none hVW e) (st.st.held a o e), fn := st.st.fn, glob := st.st.glob, blt := st.st.blt, above := st.st.above, locV := st.st.locV, ns := hns,
              cell := fun y c hy => by
                obtain ⟨h1, h2, h3, _⟩ := st.st.cell y c hy
                exact ⟨h1, h2, h3, hcs y c hy⟩
              apart := st.st.apart
              frm := fun f hf => ⟨(st.st.frm f hf).1, hfr f hf⟩
              names := fun y d' hy => by
                rcases lookup_cons_of hy with ⟨rfl, rfl⟩ | ⟨hne, hy⟩
                · exact ⟨hx.1, v, r, hl⟩
                · obtain ⟨h1, v', r', l⟩ := st.st.names y d' hy
                  exact ⟨h1, v', r', hls y v' hne l⟩ }, muAll_store hs' hls st.mu hm (fun a ha q => ?_), st.nd, st.off⟩
    obtain ⟨h1, h2, h3⟩ := st.off a ha
    rcases hWk with e | ⟨y, e⟩
    · exact h2.1 (q.trans e)
    · exact h3 y W e q.symm

theorem spost_trans {P : Params} {F F₁ : List (List Addr)} {V V₁ : Vw} {s s₁ s' : Shared} {o : Out} {f : Flow} (x : ExtS env F V s V₁ s₁) (hF : ∀ a ∈ F₁.flatten, a ∈ F.flatten ∨ Own env a ∨ s.heap.get? a = none) (h : SPost P hB env F₁ V₁ s₁ o f s') : SPost P hB env F V s o f s' := by
  obtain ⟨V', y, r⟩ := h
  refine ⟨V', x.trans hF y, ?_⟩
  cases o with
  | ret d => exact r
  | next ρ' μ' =>
    obtain ⟨hf, F', hF', st'⟩ := r
    exact ⟨hf, F', fun a ha => (hF' a ha).elim (fun q => hF a q) fun q => q.elim (fun q => .inr (.inl q)) fun q => x.back q, st'⟩

theorem Ex.mono {ρ' : Nm} {ss : List Stmt} {o : Out} (h : Ex prog w hB A env ρ μ ss o) (hs : ∀ y d, ρ.lookup y = some d → ρ'.lookup y = some d) : Ex prog w hB A env ρ' μ ss o := fun F V s E x => h F V s E (x.mono hs)
theorem Ex.weak {ρ₁ ρ₂ : Nm} {μ₁ : List (Str × Mu)} {ss : List Stmt} (h : Ex prog w hB A env ρ μ ss (.next ρ₁ μ₁)) (hs : ∀ y d, ρ₂.lookup y = some d → ρ₁.lookup y = some d) : Ex prog w hB A env ρ μ ss (.next ρ₂ μ₁) := fun F V s E x =>
  wpAny_mono (h F V s E x) (fun f s' ⟨V', y, hf, F', hF', hst⟩ => ⟨V', y, hf, F', hF', hst.mono hs⟩) fun _ _ e => e

theorem Ex.nil : Ex prog w hB A env ρ μ [] (.next ρ μ) := fun F V s E x => wpAny_execs_nil ⟨V, ExtS.refl x.st.held, rfl, F, fun _ h => .inl h, x⟩
theorem Ex.cons {st : Stmt} {rest : List Stmt} {ρ₁ : Nm} {μ₁ : List (Str × Mu)} {o : Out} (h : Ex1 prog w hB A env ρ μ st (.next ρ₁ μ₁)) (r : Ex prog w hB A env ρ₁ μ₁ rest o) : Ex prog w hB A env ρ μ (st :: rest) o := fun F V s E x => by
  refine wpAny_execs_cons (wpAny_mono (h F V s E x) (fun f s' ⟨V', y, hf, F', hF', hst⟩ => ?_) fun _ _ e => e)
  subst hf
  exact wpAny_mono (r F' V' s' E hst) (fun f' s'' h'' => spost_trans y hF' h'') fun _ _ e => e
theorem Ex.ret {st : Stmt} {rest : List Stmt} {d : D} (h : Ex1 prog w hB A env ρ μ st (.ret d)) : Ex prog w hB A env ρ μ (st :: rest) (.ret d) := fun F V s E x => by
  refine wpAny_execs_cons (wpAny_mono (h F V s E x) (fun f s' ⟨V', y, v, hf, r⟩ => ?_) fun _ _ e => e)
  subst hf
  exact ⟨V', y, v, rfl, r⟩

/-- an expression beside what is changed -/
noncomputable def EvM (prog : Program) (w : World) (hB : Heap) (A : Around) (env : Env) (ρ : Nm) (μ : List (Str × Mu)) (e : Expr) (d : D) : Prop :=
  ∀ F V s E, StM w.params hB env ρ μ F V s → wpAny (model prog w) A (eval e env) (Post w.params env V s d) E s
theorem Ev.m {e : Expr} {d : D} (h : Ev prog w hB A env ρ e d) : EvM prog w hB A env ρ μ e d := fun F V s E x => h V s E x.st

theorem Ex1.return {e : Expr} {pos : Pos} {d : D} (h : EvM prog w hB A env ρ μ e d) : Ex1 prog w hB A env ρ μ (.Return (some e) pos) (.ret d) := fun F V s E x =>
  wpAny_Return_some (wpAny_mono (h F V s E x) (fun v s' ⟨V', y, r⟩ => ⟨V', y.toS, v, rfl, r⟩) fun _ _ e => e)

theorem Ex1.assign {x : Str} {p pos : Pos} {e : Expr} {d : D} (h : EvM prog w hB A env ρ μ e d) (hx : Storable env x) (hm : ∀ p ∈ μ, p.1 ≠ x) (hs : swapsWith e (some (.Name x p)) pos.line env = pure false := by rfl) : Ex1 prog w hB A env ρ μ (.Assign [.Name x p] e pos) (.next ((x, d) :: ρ) μ) := fun F V s E st =>
  wpAny_Assign_Name (wpAny_mono (h F V s E st) (fun v s₁ ⟨V₁, y, r⟩ => store_ok (st.ext y) hx hm r fun s' z st' => ⟨V₁, y.toS.trans (fun _ h => .inl h) z, rfl, F, fun _ h => .inl h, st'⟩) fun _ _ e => e) hs

theorem Ex1.aug {x : Str} {p pos : Pos} {op : Operator} {e : Expr} {d₀ d₁ d : D} (h₀ : ρ.lookup x = some d₀) (h : EvM prog w hB A env ρ μ e d₁) (ho : Op2 prog w hB A (inplaceOp op) d₀ d₁ d) (hx : Storable env x) (hm : ∀ p ∈ μ, p.1 ≠ x) (hc : (x == ("__classdict__" : Str)) = false := by decide) :
    Ex1 prog w hB A env ρ μ (.AugAssign (.Name x p) op e pos) (.next ((x, d) :: ρ) μ) := fun F V s E st => by
  refine wpAny_AugAssign_Name ?_
  obtain ⟨hd, v₀, r₀, l⟩ := st.st.names x d₀ h₀
  have fin : wpAny (model prog w) A (eval e env) (fun v s₂ => wpAny (model prog w) A (inplaceOp op v₀ v) (fun r s₃ => wpAny (model prog w) A (storeName env x r) (fun _ => SPost w.params hB env F V s (.next ((x, d) :: ρ) μ) .next) E s₃) E s₂) E s := by
    refine wpAny_mono (h F V s E st) (fun v s₁ ⟨V₁, y, r⟩ => ?_) fun _ _ e => e
    have st₁ := st.ext y
    refine wpAny_mono (ho V₁ s₁ v₀ v E st₁.st.base st₁.st.held (r₀.mono y.le) r) (fun v₂ s₂ ⟨V₂, y₂, r₂⟩ => ?_) fun _ _ e => e
    exact store_ok (st₁.ext (y₂.toExt _)) hx hm r₂ fun s' z st' => ⟨V₂, (y.trans (y₂.toExt _)).toS.trans (fun _ h => .inl h) z, rfl, F, fun _ h => .inl h, st'⟩
  rcases l with ⟨k, m, n, e⟩ | ⟨k | k, c, hcl, _, hv⟩
  · exact wpAny_loadName_local st.st.fn k n e fin
  · exact wpAny_loadName_cell st.st.fn k hcl hv fin
  · exact wpAny_loadName_free st.st.fn k hcl hv fin hc

/-- a test -/
noncomputable def Tst (prog : Program) (w : World) (hB : Heap) (A : Around) (env : Env) (ρ : Nm) (e : Expr) (b : Bool) : Prop :=
  ∀ V s E, St w.params hB env ρ V s → wpAny (model prog w) A (isTrue e env (eval e env)) (fun c s' => c = b ∧ ∃ V', Ext env V s V' s') E s
noncomputable def TstM (prog : Program) (w : World) (hB : Heap) (A : Around) (env : Env) (ρ : Nm) (μ : List (Str × Mu)) (e : Expr) (b : Bool) : Prop :=
  ∀ F V s E, StM w.params hB env ρ μ F V s → wpAny (model prog w) A (isTrue e env (eval e env)) (fun c s' => c = b ∧ ∃ V', Ext env V s V' s') E s
theorem Tst.m {e : Expr} {b : Bool} (h : Tst prog w hB A env ρ e b) : TstM prog w hB A env ρ μ e b := fun F V s E x => h V s E x.st
theorem Tst.cmp {l r : Expr} {op : CmpOp} {pos : Pos} {d₁ d₂ : D} {b : Bool} (hl : Ev prog w hB A env ρ l d₁) (hr : Ev prog w hB A env ρ r d₂) (ho : Op2 prog w hB A (compareOp op) d₁ d₂ (.bool b))
    (hm : behindInMarks op r = false := by with_unfolding_all rfl) : Tst prog w hB A env ρ (.Compare l [op] [r] pos) b := fun V s E st => by
  refine wpAny_isTrue_Compare1 (wpAny_mono (hl V s E st) (fun v₁ s₁ ⟨V₁, x₁, r₁⟩ => wpAny_mono (hr V₁ s₁ E (st.ext x₁)) (fun v₂ s₂ ⟨V₂, x₂, r₂⟩ => ?_) fun _ _ e => e) fun _ _ e => e) hm
  have st₂ := (st.ext x₁).ext x₂
  refine wpAny_mono (ho V₂ s₂ v₁ v₂ E st₂.base st₂.held (r₁.mono x₂.le) r₂) (fun v s' ⟨V', y, r'⟩ => ?_) fun _ _ e => e
  (first | refine RepAll.nilE ?_ r' | refine Rep.intE (fun _ => ?_) r' | refine Rep.strE (fun _ => ?_) r' | refine Rep.boolE ?_ r' | cases r')
  exact wpAny_truthy_bool ⟨rfl, V', (x₁.trans x₂).trans (y.toExt _)⟩
theorem Tst.not {e : Expr} {pos : Pos} {b : Bool} (h : Tst prog w hB A env ρ e b) : Tst prog w hB A env ρ (.UnaryOp .Not e pos) (!b) := fun V s E st => by
  show wpAny _ _ (do return !(← isTrue e env (eval e env))) _ _ _
  exact wpAny_bind (wpAny_mono (h V s E st) (fun c s' ⟨hc, V', y⟩ => wpAny_pure ⟨by rw [hc], V', y⟩) fun _ _ e => e)
/-- a test that is a call's bool -/
theorem Tst.call {f : Expr} {args : List Expr} {ks : List Keyword} {pos : Pos} {b : Bool} (h : Ev prog w hB A env ρ (.Call f args ks pos) (.bool b)) : Tst prog w hB A env ρ (.Call f args ks pos) b := fun V s E st => by
  show wpAny _ _ (do let v ← eval (.Call f args ks pos) env; standAt pos; holding [v] (truthy v)) _ _ _
  refine wpAny_bind (wpAny_mono (h V s E st) (fun v s' ⟨V', y, r⟩ => ?_) fun _ _ e => e)
  (first | refine RepAll.nilE ?_ r | refine Rep.intE (fun _ => ?_) r | refine Rep.strE (fun _ => ?_) r | refine Rep.boolE ?_ r | cases r)
  exact wpAny_bind (wpAny_standAt (wpAny_holding (wpAny_truthy_bool ⟨rfl, V', y⟩)))
theorem Tst.or2 {e₁ e₂ : Expr} {pos : Pos} (h₁ : Tst prog w hB A env ρ e₁ false) {b : Bool} (h₂ : Tst prog w hB A env ρ e₂ b) : Tst prog w hB A env ρ (.BoolOp .Or [e₁, e₂] pos) b := fun V s E st => by
  show wpAny _ _ (allTrue .Or [e₁, e₂] env) _ _ _
  refine wpAny_allTrue_Or_cons (wpAny_mono (h₁ V s E st) (fun c s' ⟨hc, V', y⟩ => ?_) fun _ _ e => e)
  subst hc
  simp only [Bool.false_eq_true, if_false]
  refine wpAny_allTrue_Or_cons (wpAny_mono (h₂ V' s' E (st.ext y)) (fun c s'' ⟨hc, V'', z⟩ => ?_) fun _ _ e => e)
  subst hc
  cases c
  · simp only [Bool.false_eq_true, if_false]; exact wpAny_allTrue_Or_nil ⟨by first | rfl | trivial, V'', y.trans z⟩
  · simp only [if_true]; exact ⟨by first | rfl | trivial, V'', y.trans z⟩
theorem Tst.and_l {e₁ e₂ : Expr} {pos : Pos} (h₁ : Tst prog w hB A env ρ e₁ false) : Tst prog w hB A env ρ (.BoolOp .And [e₁, e₂] pos) false := fun V s E st => by
  show wpAny _ _ (allTrue .And [e₁, e₂] env) _ _ _
  refine wpAny_allTrue_And_cons (wpAny_mono (h₁ V s E st) (fun c s' ⟨hc, V', y⟩ => ?_) fun _ _ e => e)
  subst hc
  simp only [Bool.false_eq_true, if_false]
  exact ⟨by first | rfl | trivial, V', y⟩
theorem Tst.and_r {e₁ e₂ : Expr} {pos : Pos} (h₁ : Tst prog w hB A env ρ e₁ true) {b : Bool} (h₂ : Tst prog w hB A env ρ e₂ b) : Tst prog w hB A env ρ (.BoolOp .And [e₁, e₂] pos) b := fun V s E st => by
  show wpAny _ _ (allTrue .And [e₁, e₂] env) _ _ _
  refine wpAny_allTrue_And_cons (wpAny_mono (h₁ V s E st) (fun c s' ⟨hc, V', y⟩ => ?_) fun _ _ e => e)
  subst hc
  simp only [if_true]
  refine wpAny_allTrue_And_cons (wpAny_mono (h₂ V' s' E (st.ext y)) (fun c s'' ⟨hc, V'', z⟩ => ?_) fun _ _ e => e)
  subst hc
  cases c
  · simp only [Bool.false_eq_true, if_false]; exact ⟨by first | rfl | trivial, V'', y.trans z⟩
  · simp only [if_true]; exact wpAny_allTrue_And_nil ⟨rfl, V'', y.trans z⟩

theorem Ex1.ifT {test : Expr} {body orelse : List Stmt} {pos : Pos} {o : Out} (h : TstM prog w hB A env ρ μ test true) (hb : Ex prog w hB A env ρ μ body o) : Ex1 prog w hB A env ρ μ (.If test body orelse pos) o := fun F V s E st => by
  refine wpAny_If (wpAny_mono (h F V s E st) (fun c s' ⟨hc, V', y⟩ => ?_) fun _ _ e => e)
  subst hc
  simp only [if_true]
  exact wpAny_mono (hb F V' s' E (st.ext y)) (fun f s'' z => spost_trans y.toS (fun _ h => .inl h) z) fun _ _ e => e
theorem Ex1.ifF {test : Expr} {body orelse : List Stmt} {pos : Pos} {o : Out} (h : TstM prog w hB A env ρ μ test false) (hb : Ex prog w hB A env ρ μ orelse o) : Ex1 prog w hB A env ρ μ (.If test body orelse pos) o := fun F V s E st => by
  refine wpAny_If (wpAny_mono (h F V s E st) (fun c s' ⟨hc, V', y⟩ => ?_) fun _ _ e => e)
  subst hc
  simp only [Bool.false_eq_true, if_false]
  exact wpAny_mono (hb F V' s' E (st.ext y)) (fun f s'' z => spost_trans y.toS (fun _ h => .inl h) z) fun _ _ e => e
end

section
theorem bindL_not {k : Str → Option NameKind} {x : Str} : ∀ {r : List (Str × Value)} {m : Str → Option Value}, x ∉ r.map (·.1) → bindL k r m x = m x
  | [], _, _ => rfl
  | (n, v) :: r, m, h => by
    simp only [List.map_cons, List.mem_cons, not_or] at h
    unfold bindL
    rw [bindL_not h.2]
    split
    · show (if x = n then some v else m x) = m x
      rw [if_neg h.1]
    · rfl
theorem bindC_not {k : Str → Option NameKind} {x : Str} : ∀ {r : List (Str × Value)} {m : Str → Option Value}, x ∉ r.map (·.1) → bindC k r m x = m x
  | [], _, _ => rfl
  | (n, v) :: r, m, h => by
    simp only [List.map_cons, List.mem_cons, not_or] at h
    unfold bindC
    rw [bindC_not h.2]
    split
    · rfl
    · show (if x = n then some v else m x) = m x
      rw [if_neg h.1]
theorem bindL_mem {k : Str → Option NameKind} {x : Str} {v : Value} (hk : k x = some .local) : ∀ {r : List (Str × Value)} {m : Str → Option Value}, (r.map (·.1)).Nodup → (x, v) ∈ r → bindL k r m x = some v
  | (n, u) :: r, m, hn, h => by
    simp only [List.map_cons, List.nodup_cons] at hn
    unfold bindL
    rcases List.mem_cons.mp h with e | h
    · cases e; rw [bindL_not hn.1, if_pos hk]; simp
    · exact bindL_mem hk hn.2 h
theorem bindC_mem {k : Str → Option NameKind} {x : Str} {v : Value} (hk : ¬ k x = some .local) : ∀ {r : List (Str × Value)} {m : Str → Option Value}, (r.map (·.1)).Nodup → (x, v) ∈ r → bindC k r m x = some v
  | (n, u) :: r, m, hn, h => by
    simp only [List.map_cons, List.nodup_cons] at hn
    unfold bindC
    rcases List.mem_cons.mp h with e | h
    · cases e; rw [bindC_not hn.1, if_neg hk]; simp
    · exact bindC_mem hk hn.2 h
theorem zip_lookup {P : Params} {V : Vw} : ∀ {ps : List Str} {vs : List Value} {ds : List D}, RepAll P V vs ds → ∀ {x : Str} {d : D}, (ps.zip ds).lookup x = some d → ∃ v, (x, v) ∈ ps.zip vs ∧ Rep P V v d
  | [], _, _, _, _, _, h => by simp at h
  | _ :: _, _, _, .nil, _, _, h => by simp at h
  | p :: ps, _, _, .cons e r, x, d, h => by
    rw [List.zip_cons_cons, List.lookup_cons] at h
    by_cases q : x = p
    · subst q; simp at h; subst h; exact ⟨_, by simp, e⟩
    · have : (x == p) = false := beq_eq_false_iff_ne.mpr q
      rw [this] at h
      obtain ⟨v, hv, rv⟩ := zip_lookup r h
      exact ⟨v, by rw [List.zip_cons_cons]; exact List.mem_cons_of_mem _ hv, rv⟩
theorem map_fst_zip_sub {α β : Type} : ∀ (ps : List α) (vs : List β), (ps.zip vs).map (·.1) = ps.take vs.length
  | [], _ => by simp
  | p :: ps, [] => by simp
  | p :: ps, v :: vs => by simp [map_fst_zip_sub ps vs]

variable {prog : Program} {w : World} {hB : Heap}

/-- a def's contract by its body -/
theorem Fn.of_def {f : Addr} {fd : FuncData} {o : Obj} {body : List Stmt} {ds : List D} {d : D} {n : Nat} {ps : List Str} (G : Gd w.params hB) (ho : (KK w.params).lookup f = some o) (hdata : o.data = .func fd) (hcd : codeIn (KK w.params) fd.code fd.qualname = true)
    (hbody : fd.body = .stmts body) (hglob : fd.globals = mainGlobals) (hblt : fd.builtins = builtinsNs) (hclo : fd.closure = [])
    (hlen : ds.length = ps.length) (hbind : ∀ vs : List Value, vs.length = ps.length → bindArgs fd ⟨vs, []⟩ = pure (ps.zip vs)) (hnd : ps.Nodup)
    (hps : ∀ x ∈ ps, (x == ("__debug__" : Str)) = false ∧ (fd.scope.names.lookup x = some .local ∨ (fd.scope.names.lookup x = some .cell ∧ ∀ k, ((cellsFrom k fd.scope.names []).lookup x).isSome = true)))
    (h : ∀ A env, Room n A → env.scope = fd.scope → env.cells = cellsFrom (env.locals + 1) fd.scope.names [] → env.code = fd.code → env.frame = some env.locals → Ex prog w hB A env (ps.zip ds) [] body (.ret d))
    (hco : fd.scope.isCoroutine = false := by rfl) (hgen : fd.scope.isGenerator = false := by rfl) (hk : fd.scope.kind = .function := by rfl) : Fn prog w hB (n + 1) (.ref f) ds d := fun A V s vs E hR hlow hb hV r => by
  have hst : ∀ a o, hB.get? a = some o → s.heap.get? a = some o := fun a o e => hV a o (hb a o e)
  have hvl : vs.length = ps.length := by rw [r.length, hlen]
  have hKin := G.kin.keeps hst
  refine wpAny_call (codeAny_call_cells (binds := ps.zip vs) (by have := hR.depth; (first | lia | omega)) (hKin _ _ ho) hdata (G.nolim.keeps hst) (codeRec_of hKin hcd) hbody (hbind vs hvl) hclo (fun x hx => ?_) (fun s₁ X => ?_) hco hgen hk)
  · have hxp : x.1 ∈ ps := (List.of_mem_zip hx).1
    obtain ⟨_, hx' | ⟨hx', hc'⟩⟩ := hps _ hxp
    · exact .inl hx'
    · exact .inr ⟨hx', hc' _⟩
  · let env := callEnvC fd s.heap.objs.size f
    have hsame := X.toInCall.same
    have hL : V env.locals = none := hV.fresh (Nat.le_refl _)
    have hzn : ((ps.zip vs).map (·.1)).Nodup := by rw [map_fst_zip_sub]; exact hnd.sublist (List.take_sublist _ _)
    have st : St w.params hB env (ps.zip ds) V s₁ := {
      base := hb, held := fun a o e => X.toInCall.keep a o (hV a o e), fn := hk, glob := hglob, blt := hblt, above := hlow, locV := hL, ns := ⟨_, X.toInCall.ns⟩
      cell := fun x c hc => by
        have hab := X.above x c (mem_of_lookup hc)
        exact ⟨hV.fresh (Nat.le_of_lt hab), Nat.ne_of_gt hab, Nat.le_trans hlow (Nat.le_of_lt hab), _, X.cell x c hc⟩
      apart := X.apart
      frm := fun f hf => by
        have hf' : env.locals = f := Option.some.inj hf
        subst hf'
        exact ⟨hL, _, X.toInCall.ns⟩
      names := fun x d hx => by
        obtain ⟨v, hv, rv⟩ := zip_lookup r hx
        have hxp : x ∈ ps := (List.of_mem_zip hv).1
        obtain ⟨h1, h2⟩ := hps x hxp
        refine ⟨h1, v, rv, ?_⟩
        rcases h2 with h2 | ⟨h2, h3⟩
        · exact .inl ⟨h2, _, X.toInCall.ns, bindL_mem h2 hzn hv⟩
        · obtain ⟨c, hc⟩ := Option.isSome_iff_exists.mp (h3 (s.heap.objs.size + 1))
          refine .inr ⟨.inl h2, c, hc, Nat.ne_of_gt (X.above x c (mem_of_lookup hc)), ?_⟩
          have := X.cell x c hc
          rwa [bindC_mem (by show ¬ fd.scope.names.lookup x = some .local; rw [h2]; decide) hzn hv] at this }
    refine wpAny_mono (h _ env (hR.deeper env) rfl rfl rfl rfl [] V s₁ (fun _ _ => False) ⟨st, .nil, List.nodup_nil, fun _ h => nomatch h⟩) (fun fl s' ⟨V', y, v, hf, rv⟩ => ?_) fun _ _ e => e.elim
    subst hf
    have hown : ∀ a, Own env a → s.heap.get? a = none := fun a q => by
      rcases q with (q | q) | ⟨x, q, _⟩
      · exact get_size_none _ (Nat.le_of_eq q.symm)
      · exact get_size_none _ (Nat.le_of_eq (Option.some.inj q))
      · exact get_size_none _ (Nat.le_of_lt (X.above x a (mem_of_lookup q)))
    refine ⟨V', ⟨?_, fun a o e => ?_, y.le, fun a o e => ?_, y.held⟩, rv⟩
    · obtain ⟨h1, t1, e1⟩ := hsame; obtain ⟨h2, t2, e2⟩ := y.same; exact ⟨h2, t2, by rw [e2, e1]⟩
    · exact y.keep a o (fun q => by rw [hown a q] at e; cases e) (fun q => nomatch q) (X.toInCall.keep a o e)
    · rcases y.new a o e with q | q | q | q
      · exact .inl q
      · exact nomatch q
      · exact .inr (hown a q)
      · exact .inr (get_none_back (fun o q => ⟨o, X.toInCall.keep a o q⟩) q)
end
end Mine
namespace Mine

section
variable {prog : Program} {w : World} {A : Around} {E : Value → Shared → Prop} {s : Shared}
theorem draw_list {it t : Addr} {items : Array Value} (hne : t ≠ it) : ∀ (n i : Nat) (s : Shared) (Q : List Value → Shared → Prop), s.heap.IsListIter it t i → s.heap.IsList t items → i + n ≤ items.size →
    (∀ h', h'.IsListIter it t (i + n) → Heap.SameBut it s.heap h' → Q ((items.toList.drop i).take n) { s with heap := h' }) → wpAny (model prog w) A (draw (.ref it) n) Q E s
  | 0, i, s, Q, hit, _, _, hQ => by
    show wpAny _ _ (pure []) Q E s
    exact wpAny_pure (by simpa using hQ s.heap hit (Heap.SameBut.refl ..))
  | n + 1, i, s, Q, hit, ht, hle, hQ => by
    have hlt : i < items.size := by (first | lia | omega)
    show wpAny _ _ (pyNext (.ref it) >>= _) Q E s
    refine wpAny_bind (wpAny_pyNext_list_item hit ht (x := items[i]) (by simp [hlt]) fun h₁ hit₁ hs₁ => ?_)
    refine wpAny_bind (wpAny_holding (draw_list hne n (i + 1) _ _ hit₁ (ht.extBut hs₁.extBut hne) (by (first | lia | omega)) fun h₂ hit₂ hs₂ => wpAny_pure ?_))
    have hd : items.toList.drop i = items[i] :: items.toList.drop (i + 1) := by simp [List.drop_eq_getElem_cons, hlt]
    have := hQ h₂ (by rw [show i + (n + 1) = i + 1 + n by (first | lia | omega)]; exact hit₂) (hs₁.trans hs₂)
    rw [hd, List.take_succ_cons] at this
    exact this
theorem unpackItems_list {t : Addr} {items : Array Value} {Q : List Value → Shared → Prop} (hh : A.handled = none) (ht : s.heap.IsList t items)
    (hQ : ∀ h', Heap.ExtBut s.heap.objs.size s.heap h' → Q items.toList { s with heap := h' }) : wpAny (model prog w) A (unpackItems (.ref t) items.size none) Q E s := by
  have hlt : t ≠ s.heap.objs.size := by obtain ⟨o, ho, _⟩ := ht; exact Nat.ne_of_lt (Heap.lt_size ho)
  unfold unpackItems
  refine wpAny_bind ?_
  · unfold notIterableAtAll
    refine wpAny_bind (wpAny_specialOf ht.typeIs F.slot_list_iter.lookup ?_)
    refine wpAny_pure ?_
    simp only [Bool.false_eq_true, if_false]
    refine wpAny_bind (wpAny_holding (wpAny_pyIter_list ht ?_))
    refine wpAny_bind (wpAny_holding (draw_list hlt items.size 0 _ _ ⟨_, Heap.get?_push_size _ rfl, rfl, rfl⟩ (ht.push _) (by (first | lia | omega)) fun h₁ hit₁ hs₁ => ?_))
    have hall : List.take items.size (List.drop 0 items.toList) = items.toList := by
      rw [List.drop_zero]; exact List.take_of_length_le (by simp)
    rw [hall]
    rw [if_neg (by simp)]
    have ht₁ : h₁.IsList t items := (ht.push _).extBut hs₁.extBut hlt
    refine wpAny_bind (wpAny_holding (wpAny_pyNext_list_end hh hit₁ ht₁ (by simp) fun h₂ he₂ => ?_))
    simp only [Option.isSome_none, Bool.false_eq_true, if_false]
    refine wpAny_pure (hQ h₂ fun b o hb e => he₂ b o hb (hs₁.extBut b o hb (Heap.get?_push_of_some _ e)))
end

section
variable {prog : Program} {w : World} {hB : Heap} {A : Around} {env : Env} {ρ : Nm} {μ : List (Str × Mu)}

/-- what a target binds -/
noncomputable def Asg (prog : Program) (w : World) (hB : Heap) (A : Around) (env : Env) (μ : List (Str × Mu)) (target : Expr) (d : D) (β : Nm) : Prop :=
  ∀ ρ F V s v (E : Value → Shared → Prop) (Q : Unit → Shared → Prop), StM w.params hB env ρ μ F V s → Rep w.params V v d →
    (∀ s', ExtS env F V s V s' → StM w.params hB env (β ++ ρ) μ F V s' → Q () s') → wpAny (model prog w) A (assign target env v) Q E s
theorem Asg.name {x : Str} {p : Pos} {d : D} (hx : Storable env x) (hm : ∀ p ∈ μ, p.1 ≠ x) : Asg prog w hB A env μ (.Name x p) d [(x, d)] := fun ρ F V s v E Q st r hQ =>
  wpAny_assign_Name (store_ok st hx hm r fun s' y st' => hQ s' y st')

/-- several names, one behind the other -/
noncomputable def AsgL (prog : Program) (w : World) (hB : Heap) (A : Around) (env : Env) (μ : List (Str × Mu)) (ts : List Expr) (ds : List D) (β : Nm) : Prop :=
  ∀ ρ F V s vs (E : Value → Shared → Prop) (Q : Unit → Shared → Prop), StM w.params hB env ρ μ F V s → RepAll w.params V vs ds →
    (∀ s', ExtS env F V s V s' → StM w.params hB env (β ++ ρ) μ F V s' → Q () s') → wpAny (model prog w) A (assignInOrder ((assignEach ts env).map (·.2)) vs) Q E s
theorem AsgL.nil : AsgL prog w hB A env μ [] [] [] := fun ρ F V s vs E Q st r hQ => by
  rw [r.nil_inv]
  exact wpAny_pure (hQ s (ExtS.refl st.st.held) st)
theorem AsgL.cons {x : Str} {p : Pos} {ts : List Expr} {d : D} {ds : List D} {β : Nm} (hx : Storable env x) (hm : ∀ p ∈ μ, p.1 ≠ x) (r : AsgL prog w hB A env μ ts ds β) : AsgL prog w hB A env μ (.Name x p :: ts) (d :: ds) (β ++ [(x, d)]) := fun ρ F V s vs E Q st rv hQ => by
  cases rv with
  | cons e rr =>
    show wpAny _ _ (assignInOrder (assign (.Name x p) env :: (assignEach ts env).map (·.2)) _) Q E s
    refine wpAny_assignInOrder_more (Asg.name hx hm ρ F V s _ E _ st e fun s₁ y st₁ => ?_)
    exact r _ F V s₁ _ E Q st₁ rr fun s' z st' => hQ s' (y.trans (fun _ h => .inl h) z) (by simpa using st')

theorem extS_keep {F : List (List Addr)} {V : Vw} {s : Shared} (h : Held V s) {h' : Heap} (hk : ∀ a o, s.heap.get? a = some o → h'.get? a = some o) : Ext env V s V { s with heap := h' } :=
  (ExtF.of_keep (t := s.toks) h hk).toExt _
theorem keep_of_extBut {s : Shared} {h' : Heap} (x : Heap.ExtBut s.heap.objs.size s.heap h') (a : Addr) (o : Obj) (e : s.heap.get? a = some o) : h'.get? a = some o := x a o (Nat.ne_of_lt (Heap.lt_size e)) e

theorem Asg.tup {ts : List Expr} {k : Nat} {p : Pos} {ds : List D} {β : Nm} (hR : A.handled = none) (hl : ts.length = ds.length) (h : AsgL prog w hB A env μ ts ds β) (hlen : (assignEach ts env).length = ts.length := by rfl) (hstar : (assignEach ts env).findIdx? (·.1) = none := by rfl) : Asg prog w hB A env μ (.Tuple ts k p) (.tup ds) β := fun ρ F V s v E Q st r hQ => by
  refine Rep.tupE (fun {a vs n} e rr => ?_) r
  have ht : s.heap.IsTuple a vs.toArray := ⟨_, st.st.held _ _ e, rfl, _, rfl⟩
  refine wpAny_assign_Tuple hR ht (by rw [hlen, hl, List.size_toArray, rr.length]) hstar fun h' hk => ?_
  have y := extS_keep (env := env) (F := F) st.st.held (keep_of_extBut hk)
  refine h ρ F V _ vs E Q (st.ext y) rr fun s' z st' => hQ s' (y.toS.trans (fun _ h => .inl h) z) st'
theorem Asg.lst {ts : List Expr} {k : Nat} {p : Pos} {ds : List D} {β : Nm} (hR : A.handled = none) (hl : ts.length = ds.length) (h : AsgL prog w hB A env μ ts ds β) (hlen : (assignEach ts env).length = ts.length := by rfl) (hstar : (assignEach ts env).findIdx? (·.1) = none := by rfl) : Asg prog w hB A env μ (.Tuple ts k p) (.lst ds) β := fun ρ F V s v E Q st r hQ => by
  refine Rep.lstE (fun {a vs n} e rr => ?_) r
  have ht : s.heap.IsList a vs.toArray := isList_of st.st.held e
  rw [arm_assign_Tuple]
  refine wpAny_bind (wpAny_standAt ?_)
  unfold unpack
  have hz : (assignEach ts env).length = vs.toArray.size := by rw [hlen, hl, List.size_toArray, rr.length]
  rw [hz, hstar]
  refine wpAny_bind (wpAny_holding (unpackItems_list hR ht fun h' hk => ?_))
  have y := extS_keep (env := env) (F := F) st.st.held (keep_of_extBut hk)
  refine h ρ F V _ vs E Q (st.ext y) rr fun s' z st' => hQ s' (y.toS.trans (fun _ h => .inl h) z) st'

/-- what a loop runs over -/
noncomputable def Itr (prog : Program) (w : World) (hB : Heap) (A : Around) (d : D) (ds : List D) : Prop :=
  ∀ V s v (E : Value → Shared → Prop) (Q : Value → Shared → Prop), Held V s → Rep w.params V v d →
    (∀ I fp wr P T V' s', ExtF V s V' s' → Walks prog w A I fp wr ds.length P T → T 0 s'.heap → (∀ b ∈ wr, V' b = none ∧ s.heap.get? b = none) → (∀ i h, T i h → ∀ b ∈ wr, ∃ o, h.get? b = some o) → (∀ b ∈ fp, b ∈ wr ∨ ∃ o, V' b = some o) →
      (∀ i u, i < ds.length → P i u → ∃ d, ds[i]? = some d ∧ Rep w.params V' u d) →
      (∀ elts k pos i (s : Shared) u (Q : Unit → Shared → Prop) (E : Value → Shared → Prop), T i s.heap → Q () s → wpAny (model prog w) A (letOwnedTupleGo (.Tuple elts k pos) (.ref I) u) Q E s) → Q (.ref I) s') →
    wpAny (model prog w) A (pyIter v) Q E s

theorem go_plain {I : Addr} {n : String} {vs : Array Value} {elts : List Expr} {k : Nat} {pos : Pos} {u : Value} {s : Shared} {Q : Unit → Shared → Prop} {E : Value → Shared → Prop} (ho : ∃ o, s.heap.get? I = some o ∧ o.cls = .type n ∧ o.data = .fields vs)
    (hn : ["enumerate", "zip", "dict_itemiterator", "dict_reverseitemiterator", "odict_iterator", "itertools.zip_longest", "itertools.pairwise"].contains n = false) (hQ : Q () s) : wpAny (model prog w) A (letOwnedTupleGo (.Tuple elts k pos) (.ref I) u) Q E s := by
  cases u with
  | ref T =>
    obtain ⟨o, ho, hc, hd⟩ := ho
    unfold letOwnedTupleGo
    refine wpAny_bind (wpAny_load ho ?_)
    rw [hc, hd]
    dsimp only
    rw [hn]
    exact wpAny_pure hQ
  | _ => exact wpAny_pure hQ
theorem go_listiter {I l : Addr} {i : Nat} {elts : List Expr} {k : Nat} {pos : Pos} {u : Value} {s : Shared} {Q : Unit → Shared → Prop} {E : Value → Shared → Prop} (hit : s.heap.IsListIter I l i) (hQ : Q () s) :
    wpAny (model prog w) A (letOwnedTupleGo (.Tuple elts k pos) (.ref I) u) Q E s := by
  cases u with
  | ref T => exact wpAny_letOwnedTupleGo_listiter hit hQ
  | _ => exact wpAny_pure hQ

theorem Itr.lst (hh : A.handled = none) {ds : List D} : Itr prog w hB A (.lst ds) ds := fun V s v E Q hV r hQ => by
  refine Rep.lstE (fun {a vs n} e rr => ?_) r
  have hl := isList_of hV e
  have hne : a ≠ s.heap.objs.size := by obtain ⟨o, ho, _⟩ := hl; exact Nat.ne_of_lt (Heap.lt_size ho)
  refine wpAny_pyIter_list hl ?_
  have hW := Walks.list (prog := prog) (w := w) hh s.heap.objs.size a hne vs.toArray
  have hz : vs.toArray.size = ds.length := by rw [List.size_toArray, rr.length]
  rw [hz] at hW
  have x := ExtF.of_keep (t := s.toks) hV (h' := s.heap.push { cls := .type "list_iterator", data := .fields #[.ref a, .int 0 0] }) fun a o e => Heap.get?_push_of_some _ e
  refine hQ _ _ _ _ _ V _ x hW ⟨⟨_, Heap.get?_push_size _ rfl, rfl, rfl⟩, hl.push _⟩ (fun b hb => ?_) (fun i h hT b hb => by rw [List.mem_singleton.mp hb]; obtain ⟨⟨o, ho, _⟩, _⟩ := hT; exact ⟨o, ho⟩) (fun b hb => ?_) (fun i u hi hP => ?_) fun elts k pos i s u Q E hT hQ => go_listiter hT.1 hQ
  · rw [List.mem_singleton.mp hb]; exact ⟨hV.fresh (Nat.le_refl _), get_size_none _ (Nat.le_refl _)⟩
  · rcases List.mem_cons.mp hb with rfl | hb
    · exact .inl (.head _)
    · rw [List.mem_singleton.mp hb]; exact .inr ⟨_, e⟩
  · have hP' : vs[i]? = some u := by simpa using hP
    exact rr.get' hP'

theorem rangeSize_one (n : Nat) : Builtin.Range.rangeSize 0 n 1 = n := by
  unfold Builtin.Range.rangeSize
  by_cases h : n = 0
  · subst h; rfl
  · have : (0 : Int) < n := by (first | lia | omega)
    simp <;> (first | lia | omega)
theorem small_one {n : Nat} (h : n < 2 ^ 62) : Builtin.Range.small 0 n 1 = true := by
  unfold Builtin.Range.small
  rw [rangeSize_one]
  simp [Builtin.Range.rangeFitsLong] <;> (first | lia | omega)

noncomputable def rngD (n : Nat) : List D := (List.range n).map fun i => D.int (Int.ofNat i)
theorem rngD_len (n : Nat) : (rngD n).length = n := by simp [rngD]
theorem rngD_get {n i : Nat} (h : i < n) : (rngD n)[i]? = some (.int i) := by simp [rngD, h]

theorem Itr.rng (hh : A.handled = none) {n : Nat} (hn : n < 2 ^ 62) : Itr prog w hB A (.rng n) (rngD n) := fun V s v E Q hV r hQ => by
  refine Rep.rngE (fun {a t u z} e => ?_) r
  have hr : IsRange s.heap a 0 n 1 t u z := hV _ _ e
  refine wpAny_pyIter_range hr (small_one hn) ?_
  rw [rangeSize_one]
  have hW := Walks.range (prog := prog) (w := w) hh s.heap.objs.size 0 1 n
  have x := ExtF.of_keep (t := s.toks) hV (h' := s.heap.push { cls := .type "range_iterator", data := .fields #[rawInt 0, rawInt n, rawInt 1] }) fun a o e => Heap.get?_push_of_some _ e
  have hW' : Walks prog w A s.heap.objs.size [s.heap.objs.size] [s.heap.objs.size] (rngD n).length (fun i v => ∃ t, v = .int (0 + i * 1) t) (fun i h => IsRangeIter h s.heap.objs.size (0 + (i : Nat) * 1) ((n : Int) - (i : Nat)) 1) := by rw [rngD_len]; exact hW
  refine hQ _ _ _ _ _ V _ x hW' ?_ (fun b hb => ?_) (fun i h hT b hb => by rw [List.mem_singleton.mp hb]; exact ⟨_, hT⟩) (fun b hb => .inl hb) (fun i u hi hP => ?_) fun elts k pos i s u Q E hT hQ => ?_
  · have := Heap.get?_push_size s.heap (o := { cls := .type "range_iterator", data := .fields #[rawInt 0, rawInt n, rawInt 1] }) rfl
    show (s.heap.push _).get? _ = _
    simpa using this
  · rw [List.mem_singleton.mp hb]; exact ⟨hV.fresh (Nat.le_refl _), get_size_none _ (Nat.le_refl _)⟩
  · obtain ⟨t, rfl⟩ := hP
    rw [rngD_len] at hi
    refine ⟨_, rngD_get hi, ?_⟩
    have : (0 : Int) + (i : Int) * 1 = i := by (first | lia | omega)
    rw [this]; exact .int _ _
  · exact go_plain ⟨_, hT, rfl, rfl⟩ (by decide) hQ
end

/-- the loop, datum by datum -/
inductive ForL (prog : Program) (w : World) (hB : Heap) (A : Around) (env : Env) (target : Expr) (body : List Stmt) : Nm → List (Str × Mu) → List D → Out → Prop
  | nil {ρ : Nm} {μ : List (Str × Mu)} : ForL prog w hB A env target body ρ μ [] (.next ρ μ)
  | next {ρ ρ₁ β : Nm} {μ μ₁ : List (Str × Mu)} {d : D} {ds : List D} {o : Out} : Asg prog w hB A env μ target d β → Ex prog w hB A env (β ++ ρ) μ body (.next ρ₁ μ₁) → ForL prog w hB A env target body ρ₁ μ₁ ds o → ForL prog w hB A env target body ρ μ (d :: ds) o
  | ret {ρ β : Nm} {μ : List (Str × Mu)} {d r : D} {ds : List D} : Asg prog w hB A env μ target d β → Ex prog w hB A env (β ++ ρ) μ body (.ret r) → ForL prog w hB A env target body ρ μ (d :: ds) (.ret r)

theorem ForL.elim {prog : Program} {w : World} {hB : Heap} {A : Around} {env : Env} {target : Expr} {body : List Stmt} {ρ : Nm} {μ : List (Str × Mu)} {d : D} {ds : List D} {o : Out} {G : Prop} (h : ForL prog w hB A env target body ρ μ (d :: ds) o)
    (fn : ∀ {ρ₁ β μ₁}, Asg prog w hB A env μ target d β → Ex prog w hB A env (β ++ ρ) μ body (.next ρ₁ μ₁) → ForL prog w hB A env target body ρ₁ μ₁ ds o → G)
    (fr : ∀ {β r}, o = .ret r → Asg prog w hB A env μ target d β → Ex prog w hB A env (β ++ ρ) μ body (.ret r) → G) : G := by
  cases h with
  | next a b c => exact fn a b c
  | ret a b => exact fr rfl a b
theorem ForL.isNil {prog : Program} {w : World} {hB : Heap} {A : Around} {env : Env} {target : Expr} {body : List Stmt} {ρ : Nm} {μ : List (Str × Mu)} {o : Out} (h : ForL prog w hB A env target body ρ μ [] o) : o = .next ρ μ := by cases h; rfl

section
variable {prog : Program} {w : World} {hB : Heap} {A : Around} {env : Env} {ρ : Nm} {μ : List (Str × Mu)}

/-- the step of an iterator beside all else -/
theorem stm_iter {F : List (List Addr)} {V : Vw} {s : Shared} {wr : List Addr} {h' : Heap} {tk : Nat} (st : StM w.params hB env ρ μ F V s) (hw : ∀ b ∈ wr, V b = none ∧ ¬ Frm env b ∧ b ∉ F.flatten)
    (hk : ∀ b o, b ∉ wr → s.heap.get? b = some o → h'.get? b = some o) : StM w.params hB env ρ μ F V { s with heap := h', toks := tk } := by
  have hVk : ∀ a o, V a = some o → h'.get? a = some o := fun a o e => hk a o (fun q => by rw [(hw a q).1] at e; cases e) (st.st.held a o e)
  have hL : env.locals ∉ wr := fun q => (hw _ q).2.1 (.inl (.inl rfl))
  have hC : ∀ x c, env.cells.lookup x = some c → c ∉ wr := fun x c hc q => (hw _ q).2.1 (.inr ⟨x, hc⟩)
  have hN : ∀ m, s.heap.Ns env.locals m → h'.Ns env.locals m := fun m n => n.at' fun o e => hk _ o hL e
  have hLo : ∀ x v, LoadsTo env s.heap x v → LoadsTo env h' x v := fun x v l => by
    rcases l with ⟨k, m, n, e⟩ | ⟨k, c, hc, hcl, o, ho, hd⟩
    · exact .inl ⟨k, m, hN m n, e⟩
    · exact .inr ⟨k, c, hc, hcl, o, hk c o (hC x c hc) ho, hd⟩
  have hMu : ∀ {μ : List (Str × Mu)} {F : List (List Addr)}, MuAll w.params V env s.heap μ F → (∀ a ∈ F.flatten, a ∉ wr) → MuAll w.params V env h' μ F := by
    intro μ F m
    induction m with
    | nil => intro _; exact .nil
    | cons d l m r ih => intro h; exact .cons d (fun hx => hLo _ _ (l hx)) (m.mono V.le_refl fun b hb o e => hk b o (h b (inF hb)) e) (ih fun a ha => h a (inT ha))
  exact ⟨{ base := st.st.base, held := hVk, fn := st.st.fn, glob := st.st.glob, blt := st.st.blt, above := st.st.above, locV := st.st.locV, ns := let ⟨m, n⟩ := st.st.ns; ⟨m, hN m n⟩,
           cell := fun x c hc => by
             obtain ⟨h1, h2, h3, v, o, ho, hd⟩ := st.st.cell x c hc
             exact ⟨h1, h2, h3, v, o, hk c o (hC x c hc) ho, hd⟩
           apart := st.st.apart
           frm := fun f hf => by
             obtain ⟨h1, m, n⟩ := st.st.frm f hf
             exact ⟨h1, m, n.at' fun o e => hk _ o (fun q => (hw f q).2.1 (.inl (.inr hf))) e⟩
           names := fun x d hx => by
             obtain ⟨h1, v, r, l⟩ := st.st.names x d hx
             exact ⟨h1, v, r, hLo x v l⟩ }, hMu st.mu fun a ha q => (hw a q).2.2 ha, st.nd, st.off⟩

/-- the first handle is changed -/
theorem StM.change {x : Str} {m m' : Mu} {a : Addr} {bs bs' : List Addr} {F : List (List Addr)} {V : Vw} {s : Shared} {h' : Heap} {tk : Nat} (st : StM w.params hB env ρ ((x, m) :: μ) ((a :: bs) :: F) V s)
    (hk : ∀ b o, b ∉ a :: bs → s.heap.get? b = some o → h'.get? b = some o) (hm : MuOk w.params V h' a bs' m') (hnd : (((a :: bs') :: F).flatten).Nodup)
    (hoff : ∀ b ∈ bs', b ∉ bs → V b = none ∧ ¬ Frm env b) : StM w.params hB env ρ ((x, m') :: μ) ((a :: bs') :: F) V { s with heap := h', toks := tk } := by
  cases st.mu with
  | cons hd hl hmu hr =>
  have hoffs : ∀ b ∈ a :: bs, V b = none ∧ (b ≠ env.locals ∧ env.frame ≠ some b) ∧ ∀ x c, env.cells.lookup x = some c → c ≠ b := fun b hb => st.off b (inF hb)
  have hVk : ∀ a' o, V a' = some o → h'.get? a' = some o := fun a' o e => hk a' o (fun q => by rw [(hoffs a' q).1] at e; cases e) (st.st.held a' o e)
  have hL : env.locals ∉ a :: bs := fun q => (hoffs _ q).2.1.1 rfl
  have hC : ∀ x c, env.cells.lookup x = some c → c ∉ a :: bs := fun x c hc q => (hoffs _ q).2.2 x c hc rfl
  have hN : ∀ m, s.heap.Ns env.locals m → h'.Ns env.locals m := fun m n => n.at' fun o e => hk _ o hL e
  have hLo : ∀ x v, LoadsTo env s.heap x v → LoadsTo env h' x v := fun x v l => by
    rcases l with ⟨k, m, n, e⟩ | ⟨k, c, hc, hcl, o, ho, hd⟩
    · exact .inl ⟨k, m, hN m n, e⟩
    · exact .inr ⟨k, c, hc, hcl, o, hk c o (hC x c hc) ho, hd⟩
  have hapart : ∀ b ∈ F.flatten, b ∉ a :: bs := fun b hb q => by
    have := st.nd
    rw [List.flatten_cons] at this
    exact (List.nodup_append.mp this).2.2 b q b hb rfl
  have hMu : ∀ {μ : List (Str × Mu)} {F : List (List Addr)}, MuAll w.params V env s.heap μ F → (∀ b ∈ F.flatten, b ∉ a :: bs) → MuAll w.params V env h' μ F := by
    intro μ F m
    induction m with
    | nil => intro _; exact .nil
    | cons d l m r ih => intro h; exact .cons d (fun hx => hLo _ _ (l hx)) (m.mono V.le_refl fun b hb o e => hk b o (h b (inF hb)) e) (ih fun a ha => h a (inT ha))
  refine ⟨{ base := st.st.base, held := hVk, fn := st.st.fn, glob := st.st.glob, blt := st.st.blt, above := st.st.above, locV := st.st.locV, ns := (let ⟨m, n⟩ := st.st.ns; ⟨m, hN m n⟩),
            cell := fun x c hc => by
             obtain ⟨h1, h2, h3, v, o, ho, hd⟩ := st.st.cell x c hc
             exact ⟨h1, h2, h3, v, o, hk c o (hC x c hc) ho, hd⟩
            apart := st.st.apart
            frm := fun f hf => by
             obtain ⟨h1, m, n⟩ := st.st.frm f hf
             exact ⟨h1, m, n.at' fun o e => hk _ o (fun q => (hoffs f q).2.1.2 hf) e⟩
            names := fun x d hx => by
             obtain ⟨h1, v, r, l⟩ := st.st.names x d hx
             exact ⟨h1, v, r, hLo x v l⟩ }, .cons hd (fun hx => hLo _ _ (hl hx)) hm (hMu hr hapart), hnd, fun b hb => ?_⟩
  rw [List.flatten_cons, List.cons_append, List.mem_cons, List.mem_append] at hb
  rcases hb with rfl | hb | hb
  · exact hoffs _ (.head _)
  · by_cases q : b ∈ bs
    · exact hoffs b (.tail _ q)
    · obtain ⟨h1, h2⟩ := hoff b hb q
      exact ⟨h1, ⟨fun q' => h2 (.inl (.inl q')), fun q' => h2 (.inl (.inr q'))⟩, fun x c hc q' => h2 (.inr ⟨x, by rw [← q']; exact hc⟩)⟩
  · exact st.off b (inT hb)

theorem drop_of {α : Type} {l : List α} {i : Nat} {a : α} (h : l[i]? = some a) : l.drop i = a :: l.drop (i + 1) := by
  obtain ⟨h1, h2⟩ := List.getElem?_eq_some_iff.mp h
  rw [List.drop_eq_getElem_cons h1, h2]
theorem loop_less {n i : Nat} (h : i < n) : n + 1 - (i + 1) < n + 1 - i := by (first | lia | omega)
/-- what a loop's iterator rests upon -/
structure Lp (wr fp : List Addr) (Vb : Vw) (T : Nat → Heap → Prop) : Prop where
  frame : ∀ i h h', T i h → (∀ b ∈ fp, ∀ o, h.get? b = some o → h'.get? b = some o) → T i h'
  fp : ∀ b ∈ fp, b ∈ wr ∨ ∃ o, Vb b = some o
  live : ∀ i h, T i h → ∀ b ∈ wr, ∃ o, h.get? b = some o
structure Trk (env : Env) (wr : List Addr) (Vb : Vw) (T : Heap → Prop) (F : List (List Addr)) (V : Vw) (s : Shared) : Prop where
  off : ∀ b ∈ wr, V b = none ∧ ¬ Frm env b ∧ b ∉ F.flatten
  held : Held V s
  le : Vb.le V
  here : T s.heap
theorem Lp.step {wr fp : List Addr} {Vb V V' : Vw} {T : Nat → Heap → Prop} {i : Nat} {F F' : List (List Addr)} {s s' : Shared} (L : Lp wr fp Vb T) (t : Trk env wr Vb (T i) F V s) (x : ExtS env F V s V' s') (hF : ∀ a ∈ F'.flatten, a ∈ F.flatten ∨ Own env a ∨ s.heap.get? a = none) : Trk env wr Vb (T i) F' V' s' := by
  refine ⟨fun b hb => ?_, x.held, t.le.trans x.le, L.frame i _ _ t.here fun b hb o e => ?_⟩
  · obtain ⟨h1, h2, h3⟩ := t.off b hb
    obtain ⟨o, ho⟩ := L.live i _ t.here b hb
    refine ⟨?_, h2, fun q => (hF b q).elim h3 fun q => q.elim (fun q => h2 q.frm) fun q => no q ho⟩
    cases e : V' b with
    | none => rfl
    | some o' => exact (x.new b o' e).elim (no h1) fun q => q.elim (fun q => absurd q h3) fun q => q.elim (fun q => absurd q.frm h2) fun q => no q ho
  · rcases L.fp b hb with q | ⟨o', q⟩
    · exact x.keep b o (fun q' => (t.off b q).2.1 q'.frm) (t.off b q).2.2 e
    · have h1 := t.le b o' q
      cases (t.held b o' h1).symm.trans e
      exact x.held b o (x.le b o h1)
theorem ExtS.iter {wr : List Addr} {F : List (List Addr)} {V V' : Vw} {s s' : Shared} {h : Heap} {tk : Nat} (x : ExtS env F V s V' s') (hfrm : ∀ b ∈ wr, ¬ Frm env b) (hw : ∀ b ∈ wr, b ∈ F.flatten ∨ s.heap.get? b = none) (hk : ∀ b o, b ∉ wr → s'.heap.get? b = some o → h.get? b = some o) (hh : Held V' { s' with heap := h, toks := tk }) : ExtS env F V s V' { s' with heap := h, toks := tk } :=
  ⟨let ⟨_, _, e1⟩ := x.same; ⟨h, tk, by rw [e1]⟩, fun a o n m e => hk a o (fun q => (hw a q).elim m fun q => no q e) (x.keep a o n m e), x.le, x.new, hh, fun f m hf hne n => (x.nsF f m hf hne n).at' fun o e => hk f o (fun q => hfrm f q (.inl (.inr hf))) e⟩
theorem ExtS.from {F F' F'' : List (List Addr)} {V V' : Vw} {s s' : Shared} (x : ExtS env F V s V' s') (h : ∀ a ∈ F'.flatten, a ∈ F.flatten ∨ Own env a ∨ s.heap.get? a = none) (h' : ∀ a ∈ F''.flatten, a ∈ F'.flatten ∨ Own env a ∨ s'.heap.get? a = none) : ∀ a ∈ F''.flatten, a ∈ F.flatten ∨ Own env a ∨ s.heap.get? a = none :=
  fun a ha => (h' a ha).elim (h a) fun q => q.elim (fun q => .inr (.inl q)) x.back
/-- a loop's invariant -/
inductive ForInv (P : Params) (hB : Heap) (env : Env) (F : List (List Addr)) (V : Vw) (s : Shared) (Vb : Vw) (wr : List Addr) (T : Nat → Heap → Prop) (R : Nm → List (Str × Mu) → Nat → Prop) (n k : Nat) (s' : Shared) : Prop
  | intro (ρ' : Nm) (μ' : List (Str × Mu)) (F' : List (List Addr)) (V' : Vw) (i : Nat) (st' : StM P hB env ρ' μ' F' V' s') (x' : ExtS env F V s V' s') (hF' : ∀ a ∈ F'.flatten, a ∈ F.flatten ∨ Own env a ∨ s.heap.get? a = none) (hi : i ≤ n) (hk : k = n + 1 - i) (hr : R ρ' μ' i) (t' : Trk env wr Vb (T i) F' V' s') : ForInv P hB env F V s Vb wr T R n k s'

theorem Ex1.for {target iter : Expr} {body : List Stmt} {pos : Pos} {d : D} {ds : List D} {o : Out} (hi : EvM prog w hB A env ρ μ iter d) (hI : Itr prog w hB A d ds) (hl : ForL prog w hB A env target body ρ μ ds o)
    (ht : (∃ x p, target = .Name x p) ∨ ∃ ts k p, target = .Tuple ts k p) (hs : ∀ x, foldedSetIterable iter env x = pure x := by intro _; rfl) : Ex1 prog w hB A env ρ μ (.For target iter body [] pos) o := fun F V s E st => by
  refine wpAny_For (wpAny_mono (hi F V s E st) (fun v s₁ ⟨V₁, y₁, r₁⟩ => ?_) fun _ _ e => e) hs
  have st₁ := st.ext y₁
  refine hI V₁ s₁ v E _ st₁.st.held r₁ fun I fp wr P T V₂ s₂ y₂ W hT hwr hlive hfp hP hgo => ?_
  have st₂ := st₁.ext (y₂.toExt _)
  have L : Lp wr fp V₂ T := ⟨W.frame, hfp, hlive⟩
  have hfr : ∀ b ∈ wr, b ∈ F.flatten ∨ s.heap.get? b = none := fun b hb => .inr (get_none_back (fun o q => y₁.someAt b o q) (hwr b hb).2)
  refine codeAny_forLoop_any (ForInv w.params hB env F V s V₂ wr T (fun ρ' μ' i => ForL prog w hB A env target body ρ' μ' (ds.drop i) o) ds.length) ?_ (ds.length + 1)
    ⟨ρ, μ, F, V₂, 0, st₂, (y₁.trans (y₂.toExt _)).toS, fun _ h => .inl h, Nat.zero_le _, rfl, hl, ⟨fun b hb => ⟨(hwr b hb).1, st₁.st.fresh (hwr b hb).2, st₁.fresh (hwr b hb).2⟩, st₂.st.held, V₂.le_refl, hT⟩⟩
  intro k s' hinv
  cases hinv with
  | intro ρ' μ' F' V' i st' x' hF' hi' hk hl' t' =>
  subst hk
  by_cases hlt : i < ds.length
  · refine W.item i s' _ _ hlt t'.here fun u h₁ tk₁ hPu hT₁ hk₁ => ?_
    refine (hP i u hlt hPu).elim fun d₁ hd => ?_
    have hl₁ := drop_of hd.1 ▸ hl'
    have st₃ := stm_iter (tk := tk₁) st' t'.off hk₁
    have x₃ := x'.iter (fun b hb => (t'.off b hb).2.1) hfr hk₁ st₃.st.held
    have t₃ : Trk env wr V₂ (T (i + 1)) F' V' { s' with heap := h₁, toks := tk₁ } := ⟨t'.off, st₃.st.held, t'.le, hT₁⟩
    have hgo' : ∀ (Q : Unit → Shared → Prop) (E : Value → Shared → Prop), Q () { s' with heap := h₁, toks := tk₁ } → wpAny (model prog w) A (letOwnedTupleGo target (.ref I) u) Q E { s' with heap := h₁, toks := tk₁ } := fun Q E hQ => by
      rcases ht with ⟨x, p, rfl⟩ | ⟨ts, k, p, rfl⟩
      · exact wpAny_pure hQ
      · exact hgo ts k p (i + 1) _ u Q _ hT₁ hQ
    refine hgo' _ _ ?_
    refine hl₁.elim (fun ha hb hr => ?_) fun ho ha hb => ?_
    · refine ha ρ' F' V' _ u _ _ st₃ (hd.2.mono t'.le) fun s₄ x₄ st₄ => ?_
      refine wpAny_mono (hb F' V' s₄ _ st₄) (fun f s₅ ⟨V₅, x₅, hf, F₅, hF₅, st₅⟩ => ?_) fun _ _ e => e
      subst hf
      exact ⟨ds.length + 1 - (i + 1), loop_less hlt, _, _, F₅, V₅, i + 1, st₅, (x₃.trans hF' x₄).trans hF' x₅, (x₃.trans hF' x₄).from hF' hF₅, hlt, rfl, hr, L.step (L.step t₃ x₄ fun _ h => .inl h) x₅ hF₅⟩
    · subst ho
      refine ha ρ' F' V' _ u _ _ st₃ (hd.2.mono t'.le) fun s₄ x₄ st₄ => ?_
      refine wpAny_mono (hb F' V' s₄ _ st₄) (fun f s₅ ⟨V₅, x₅, v₅, hf, r₅⟩ => ?_) fun _ _ e => e
      subst hf
      exact ⟨V₅, (x₃.trans hF' x₄).trans hF' x₅, v₅, rfl, r₅⟩
  · have ho := (List.drop_of_length_le (Nat.not_lt.mp hlt) ▸ hl').isNil
    subst ho
    refine W.done s' _ _ (Nat.le_antisymm hi' (Nat.not_lt.mp hlt) ▸ t'.here) fun h₁ tk₁ hk₁ => ?_
    have st₃ := stm_iter (tk := tk₁) st' t'.off hk₁
    exact wpAny_execs_nil ⟨V', x'.iter (fun b hb => (t'.off b hb).2.1) hfr hk₁ st₃.st.held, rfl, F', hF', st₃⟩
end
end Mine
namespace Mine

section
variable {prog : Program} {w : World} {A : Around} {R : Result → Shared → Prop} {s : Shared}

/-- one turn of a comprehension, whatever it does with the item -/
noncomputable def turnOf (pos : Pos) (e : Expr) (depth : Nat) (it acc : Value) (env : Env) (target : Expr) (ifs : List Expr) (tl : Sem PySem.Fin → Sem PySem.Fin) : Sem PySem.Fin := do
  standAt pos
  match ← pyNext it with
  | none => pure (.done .next)
  | some v =>
    letOwnedTupleGo target it v
    assign target env v
    let mut ok := true
    for c in ifs do
      if ok then ok ← isTrue c env (eval c env)
    if ok then tl (again (.compLoop e depth it acc env)) else again (.compLoop e depth it acc env)
noncomputable def emitOf (acc : Value) (elt : Expr) (env : Env) : Sem Unit := do let _ ← call (.builtin "list.append") [acc, ← eval elt env]
noncomputable def innerK (e : Expr) (iter : Expr) (acc : Value) (env : Env) (k : Sem PySem.Fin) : Sem PySem.Fin := do
  let x ← eval iter env
  standAt iter.pos
  let x ← foldedSetIterable iter env x
  let _ ← runOwn (.compStart e 1 (← holding [x] (pyIter x)) acc env) env
  k

theorem turn_one (elt target iter : Expr) (ifs : List Expr) (scope : Scope) (pos : Pos) (it acc : Value) (env : Env) :
    compTurn (.ListComp elt [⟨target, iter, ifs, 0⟩] scope pos) 0 it acc env = turnOf iter.pos (.ListComp elt [⟨target, iter, ifs, 0⟩] scope pos) 0 it acc env target ifs (fun k => emitOf acc elt env >>= fun _ => k) := by rfl
theorem turn_two0 (elt target iter target' iter' : Expr) (ifs ifs' : List Expr) (scope : Scope) (pos : Pos) (it acc : Value) (env : Env) :
    compTurn (.ListComp elt [⟨target, iter, ifs, 0⟩, ⟨target', iter', ifs', 0⟩] scope pos) 0 it acc env = turnOf iter.pos (.ListComp elt [⟨target, iter, ifs, 0⟩, ⟨target', iter', ifs', 0⟩] scope pos) 0 it acc env target ifs
      (innerK (.ListComp elt [⟨target, iter, ifs, 0⟩, ⟨target', iter', ifs', 0⟩] scope pos) iter' acc env) := by rfl
theorem turn_two1 (elt target iter target' iter' : Expr) (ifs ifs' : List Expr) (scope : Scope) (pos : Pos) (it acc : Value) (env : Env) :
    compTurn (.ListComp elt [⟨target, iter, ifs, 0⟩, ⟨target', iter', ifs', 0⟩] scope pos) 1 it acc env = turnOf iter'.pos (.ListComp elt [⟨target, iter, ifs, 0⟩, ⟨target', iter', ifs', 0⟩] scope pos) 1 it acc env target' ifs' (fun k => emitOf acc elt env >>= fun _ => k) := by rfl

abbrev testsOf (ifs : List Expr) (env : Env) : Sem Bool := forIn ifs true fun c r => if r = true then do let ok ← isTrue c env (eval c env); pure (ForInStep.yield ok) else pure (ForInStep.yield r)

theorem compLoop_any {elt : Expr} {gens : List Comprehension} {scope : Scope} {cpos pos : Pos} {depth : Nat} {target : Expr} {ifs : List Expr} {tl : Sem PySem.Fin → Sem PySem.Fin} {W : (Shared → Prop) → Shared → Prop} {it acc : Value} {env : Env} (I : Nat → Shared → Prop)
    (ht : compTurn (.ListComp elt gens scope cpos) depth it acc env = turnOf pos (.ListComp elt gens scope cpos) depth it acc env target ifs tl)
    (htl : ∀ k (Q : PySem.Fin → Shared → Prop) s, W (fun s' => wpAny (model prog w) A k Q (notedBy (model prog w) A env fun e s' => R (.error e) s') s') s → wpAny (model prog w) A (tl k) Q (notedBy (model prog w) A env fun e s' => R (.error e) s') s)
    (hW : ∀ (P P' : Shared → Prop) s, W P s → (∀ s, P s → P' s) → W P' s)
    (turn : ∀ n s, I n s → wpAny (model prog w) A (pyNext it) (fun r s₁ => match r with
      | none => R (.ok .next) s₁
      | some v => wpAny (model prog w) A (letOwnedTupleGo target it v) (fun _ s₁' => wpAny (model prog w) A (assign target env v) (fun _ s₂ =>
          wpAny (model prog w) A (testsOf ifs env) (fun ok s₃ =>
            if ok = true then W (fun s₅ => ∃ m, m < n ∧ I m s₅) s₃
            else ∃ m, m < n ∧ I m s₃) (notedBy (model prog w) A env fun e s' => R (.error e) s') s₂) (notedBy (model prog w) A env fun e s' => R (.error e) s') s₁') (notedBy (model prog w) A env fun e s' => R (.error e) s') s₁) (notedBy (model prog w) A env fun e s' => R (.error e) s') s)
    (n : Nat) (h : I n s) : codeAny (model prog w) A (.compLoop (.ListComp elt gens scope cpos) depth it acc env) R s := by
  refine codeAny_loop rfl I (fun n s hI => ?_) n h
  show wpAny _ A ((compTurn (.ListComp elt gens scope cpos) depth it acc env).onRaise (fun x => do noteFrame x env; theTreesLotGoes x)) _ _ s
  refine wpAny_noted ?_
  rw [ht]
  unfold turnOf
  refine wpAny_bind (wpAny_standAt (wpAny_bind (wpAny_mono (turn n s hI) (fun r s₁ h₁ => ?_) fun _ _ h' => h')))
  cases r with
  | none => exact wpAny_pure h₁
  | some v =>
    refine wpAny_bind (wpAny_mono h₁ (fun _ s₁' h₁' => ?_) fun _ _ h' => h')
    refine wpAny_bind (wpAny_mono h₁' (fun _ s₂ h₂ => wpAny_bind (wpAny_mono h₂ (fun ok s₃ h₃ => ?_) fun _ _ h' => h')) fun _ _ h' => h')
    cases ok with
    | false => exact wpAny_pure ⟨rfl, h₃⟩
    | true => exact htl _ _ _ (hW _ _ _ h₃ fun s₅ h₅ => wpAny_pure ⟨rfl, h₅⟩)

theorem htl_emit {acc : Value} {elt : Expr} {env : Env} (k : Sem PySem.Fin) (Q : PySem.Fin → Shared → Prop) (E : Value → Shared → Prop) (s : Shared) (h : wpAny (model prog w) A (emitOf acc elt env) (fun _ s' => wpAny (model prog w) A k Q E s') E s) :
    wpAny (model prog w) A (emitOf acc elt env >>= fun _ => k) Q E s := wpAny_bind h
theorem htl_inner {e iter : Expr} {acc : Value} {env : Env} (hs : ∀ x, foldedSetIterable iter env x = pure x) (k : Sem PySem.Fin) (Q : PySem.Fin → Shared → Prop) (E : Value → Shared → Prop) (s : Shared)
    (h : wpAny (model prog w) A (eval iter env) (fun x s₁ => wpAny (model prog w) A (pyIter x) (fun it s₂ => wpAny (model prog w) A (runOwn (.compStart e 1 it acc env) env) (fun _ s' => wpAny (model prog w) A k Q E s') E s₂) E s₁) E s) :
    wpAny (model prog w) A (innerK e iter acc env k) Q E s := by
  unfold innerK
  refine wpAny_bind (wpAny_mono h (fun x s₁ h₁ => wpAny_bind (wpAny_standAt (wpAny_bind ?_))) fun _ _ x => x)
  rw [hs x]
  exact wpAny_pure (wpAny_bind (wpAny_holding (wpAny_mono h₁ (fun it s₂ h₂ => wpAny_bind h₂) fun _ _ x => x)))

theorem compStart_any {elt : Expr} {gens : List Comprehension} {scope : Scope} {pos : Pos} {depth : Nat} {target iter : Expr} {ifs : List Expr} {it acc : Value} {env : Env} (hg : gens[depth]? = some ⟨target, iter, ifs, 0⟩)
    (h0 : codeAny (model prog w) A (.compLoop (.ListComp elt gens scope pos) depth it acc env) R s)
    (h : wpAny (model prog w) A (pyIter it) (fun it' s' => codeAny (model prog w) A (.compLoop (.ListComp elt gens scope pos) depth it' acc env) R s')
      (notedBy (model prog w) A env fun x s' => R (.error x) s') s) :
    codeAny (model prog w) A (.compStart (.ListComp elt gens scope pos) depth it acc env) R s := by
  refine codeAny_of_tree ?_
  show wpAny _ _ ((compStart (.ListComp elt gens scope pos) depth it acc env).onRaise (fun x => do noteFrame x env; standAt theWindowsPlace)) _ _ s
  refine wpAny_notedAt ?_
  unfold compStart
  have hc : (clausesOf (.ListComp elt gens scope pos))[depth]? = some ⟨target, iter, ifs, 0⟩ := hg
  rw [hc]
  show wpAny _ _ (ask >>= _) _ _ s
  refine wpAny_bind (wpAny_askSetting (wpAny_ite ?_))
  split
  · first
      | exact wpAny_bind (wpAny_pure (wpAny_pure (And.intro rfl h0)))
      | exact wpAny_pure (And.intro rfl h0)
  · first
      | exact wpAny_bind (wpAny_rule (wpAny_bind (wpAny_standAt (wpAny_bind (wpAny_mono h (fun it' s' h' => wpAny_pure (And.intro rfl h')) fun _ _ x => x)))))
      | (refine wpAny_bind (wpAny_rule ?_); show wpAny _ _ (standAt iter.pos >>= _) _ _ s; exact wpAny_bind (wpAny_standAt (wpAny_bind (wpAny_mono h (fun it' s' h' => wpAny_pure (And.intro rfl h')) fun _ _ x => x))))
end
end Mine
namespace Mine

/-- the tests of a comprehension's clause -/
noncomputable def TstL (prog : Program) (w : World) (hB : Heap) (A : Around) (env : Env) (ρ : Nm) (ifs : List Expr) (b : Bool) : Prop :=
  ∀ V s E, St w.params hB env ρ V s → wpAny (model prog w) A (testsOf ifs env) (fun c s' => c = b ∧ ∃ V', Ext env V s V' s') E s

section
variable {prog : Program} {w : World} {hB : Heap} {A : Around} {env : Env} {ρ : Nm} {μ : List (Str × Mu)}
theorem TstL.nil : TstL prog w hB A env ρ [] true := fun V s E st => wpAny_tests_nil ⟨rfl, V, Ext.refl st.held⟩
theorem TstL.one {c : Expr} {b : Bool} (h : Tst prog w hB A env ρ c b) : TstL prog w hB A env ρ [c] b := fun V s E st => wpAny_tests_one (h V s E st)
end

/-- none of these names is known yet -/
noncomputable def fresh (β ρ : Nm) : Bool := β.all fun p => (ρ.lookup p.1).isNone
theorem fresh_le {β ρ : Nm} (h : fresh β ρ = true) (y : Str) (d : D) (e : ρ.lookup y = some d) : (β ++ ρ).lookup y = some d := by
  rw [List.lookup_append]
  have : β.lookup y = none := by
    rw [List.lookup_eq_none_iff]
    intro p hp
    have q := List.all_eq_true.mp h p hp
    by_cases hy : y = p.1
    · rw [← hy, e] at q; cases q
    · simpa using hy
  rw [this]; exact e

/-- a clause over its data -/
inductive Comp1 (prog : Program) (w : World) (hB : Heap) (A : Around) (env : Env) (target : Expr) (ifs : List Expr) (elt : Expr) (ρ : Nm) : List D → List D → Prop
  | nil : Comp1 prog w hB A env target ifs elt ρ [] []
  | skip {d : D} {ds rs : List D} {β : Nm} : (∀ q, Asg prog w hB A env [(anon, .lst q)] target d β) → fresh β ρ = true → TstL prog w hB A env (β ++ ρ) ifs false → Comp1 prog w hB A env target ifs elt ρ ds rs → Comp1 prog w hB A env target ifs elt ρ (d :: ds) rs
  | take {d r : D} {ds rs : List D} {β : Nm} : (∀ q, Asg prog w hB A env [(anon, .lst q)] target d β) → fresh β ρ = true → TstL prog w hB A env (β ++ ρ) ifs true → Ev prog w hB A env (β ++ ρ) elt r → Comp1 prog w hB A env target ifs elt ρ ds rs →
      Comp1 prog w hB A env target ifs elt ρ (d :: ds) (r :: rs)
inductive Comp2 (prog : Program) (w : World) (hB : Heap) (A : Around) (env : Env) (target : Expr) (ifs : List Expr) (target' iter' : Expr) (ifs' : List Expr) (elt : Expr) (ρ : Nm) : List D → List D → Prop
  | nil : Comp2 prog w hB A env target ifs target' iter' ifs' elt ρ [] []
  | take {d d' : D} {ds ds' rs₁ rs : List D} {β : Nm} : (∀ q, Asg prog w hB A env [(anon, .lst q)] target d β) → fresh β ρ = true → TstL prog w hB A env (β ++ ρ) ifs true → Ev prog w hB A env (β ++ ρ) iter' d' → Itr prog w hB A d' ds' →
      Comp1 prog w hB A env target' ifs' elt (β ++ ρ) ds' rs₁ → Comp2 prog w hB A env target ifs target' iter' ifs' elt ρ ds rs → Comp2 prog w hB A env target ifs target' iter' ifs' elt ρ (d :: ds) (rs₁ ++ rs)

section
variable {prog : Program} {w : World} {hB : Heap} {A : Around} {env : Env} {ρ : Nm}

theorem mem_accwr {acc a : Addr} {wr : List Addr} : a ∈ ([acc :: wr] : List (List Addr)).flatten ↔ a = acc ∨ a ∈ wr := by simp

theorem extS_wr {F : List (List Addr)} {V V' : Vw} {s s' : Shared} {acc : Addr} {wr : List Addr} (x : ExtS env [[acc]] V s V' s') : ExtS env [acc :: wr] V s V' s' :=
  ⟨x.same, fun a o n m e => x.keep a o n (fun q => m (mem_accwr.mpr (.inl (by simpa using q)))) e, x.le, fun a o e => (x.new a o e).imp id fun q => q.imp (fun q => mem_accwr.mpr (.inl (by simpa using q))) id, x.held, x.nsF⟩

/-- an item is appended to what is gathered -/
theorem append_ok {V : Vw} {s : Shared} {acc : Addr} {rs : List D} {r : D} {v : Value} {E : Value → Shared → Prop} {Q : Value → Shared → Prop} (st : StM w.params hB env ρ [(anon, .lst rs)] [[acc]] V s) (hz : rs.length ≤ 1000000) (rv : Rep w.params V v r)
    (hQ : ∀ s', ExtS env [[acc]] V s V s' → StM w.params hB env ρ [(anon, .lst (rs ++ [r]))] [[acc]] V s' → Q .none s') : wpAny (model prog w) A (call (.builtin "list.append") [.ref acc, v]) Q E s := by
  obtain ⟨vs, n, _, e, rr⟩ := st.mu.lstAt
  have hsz : vs.toArray.size ≤ sizeLine := by rw [List.size_toArray, rr.length, sizeLine_eq]; (first | lia | omega)
  refine wpAny_list_append_plain (items := vs.toArray) ⟨n, e⟩ (fun h' hp hs => ?_) hsz
  obtain ⟨n', hn'⟩ := hp
  have hn'' : h'.get? acc = some (lstObj (vs ++ [v]) n') := by rw [hn']; simp
  refine hQ _ ⟨⟨_, s.toks, rfl⟩, fun a o n m e => hs.extBut a o (fun q => m (by simp [q])) e, V.le_refl, fun _ _ e => .inl e, fun a o e => ?_, fun f m hf hne n => n.at' fun o e => hs.extBut f o (fun q => (st.off acc (by simp)).2.1.2 (q ▸ hf)) e⟩ ?_
  · refine hs.extBut a o (fun q => ?_) (st.st.held a o e)
    have := (st.off acc (by simp)).1
    rw [q, this] at e; cases e
  · exact st.change (tk := s.toks) (fun b o hb e => hs.extBut b o (fun q => hb (by simp [q])) e) (.lst hn'' (rr.append (.cons rv .nil))) st.nd fun b hb => nomatch hb

/-- a gathering loop's invariant -/
inductive CompInv (P : Params) (hB : Heap) (env : Env) (ρ : Nm) (acc : Addr) (wr : List Addr) (V : Vw) (s : Shared) (T : Nat → Heap → Prop) (rs₀ rs : List D) (R : Nat → List D → Prop) (n k : Nat) (s' : Shared) : Prop
  | intro (V' : Vw) (i : Nat) (done todo : List D) (st' : StM P hB env ρ [(anon, .lst (rs₀ ++ done))] [[acc]] V' s') (x' : ExtS env [acc :: wr] V s V' s') (hi : i ≤ n) (hk : k = n + 1 - i) (hr : R i todo) (e : rs = done ++ todo) (t' : Trk env wr V (T i) [[acc]] V' s') : CompInv P hB env ρ acc wr V s T rs₀ rs R n k s'
theorem Comp1.elim {target : Expr} {ifs : List Expr} {elt : Expr} {d : D} {ds rs : List D} {G : Prop} (h : Comp1 prog w hB A env target ifs elt ρ (d :: ds) rs)
    (fs : ∀ {β : Nm}, (∀ q, Asg prog w hB A env [(anon, .lst q)] target d β) → fresh β ρ = true → TstL prog w hB A env (β ++ ρ) ifs false → Comp1 prog w hB A env target ifs elt ρ ds rs → G)
    (ft : ∀ {r : D} {rs' : List D} {β : Nm}, rs = r :: rs' → (∀ q, Asg prog w hB A env [(anon, .lst q)] target d β) → fresh β ρ = true → TstL prog w hB A env (β ++ ρ) ifs true → Ev prog w hB A env (β ++ ρ) elt r → Comp1 prog w hB A env target ifs elt ρ ds rs' → G) : G := by
  cases h with
  | skip a b c r => exact fs a b c r
  | take a b c e r => exact ft rfl a b c e r
theorem Comp1.isNil {target : Expr} {ifs : List Expr} {elt : Expr} {rs : List D} (h : Comp1 prog w hB A env target ifs elt ρ [] rs) : rs = [] := by cases h; rfl
theorem in_wr {acc b : Addr} {wr : List Addr} {s : Shared} (h : b ∈ wr) : b ∈ ([acc :: wr] : List (List Addr)).flatten ∨ s.heap.get? b = none := .inl (mem_accwr.mpr (.inr h))

/-- a clause's loop that gathers -/
theorem comp1_loop {R : Result → Shared → Prop} {elt : Expr} {gens : List Comprehension} {scope : Scope} {cpos pos : Pos} {depth : Nat} {target : Expr} {ifs : List Expr}
    (ht : ∀ it acc, compTurn (.ListComp elt gens scope cpos) depth it acc env = turnOf pos (.ListComp elt gens scope cpos) depth it acc env target ifs (fun k => emitOf acc elt env >>= fun _ => k))
    (htg : (∃ x p, target = .Name x p) ∨ ∃ ts k p, target = .Tuple ts k p)
    {I acc : Addr} {fp wr : List Addr} {P : Nat → Value → Prop} {T : Nat → Heap → Prop} {ds rs rs₀ : List D} {V : Vw} {s : Shared} (hc : Comp1 prog w hB A env target ifs elt ρ ds rs) (st : StM w.params hB env ρ [(anon, .lst rs₀)] [[acc]] V s)
    (hz : rs₀.length + rs.length ≤ 1000000) (W : Walks prog w A I fp wr ds.length P T) (hT : T 0 s.heap) (hwr : ∀ b ∈ wr, V b = none ∧ ¬ Frm env b ∧ b ≠ acc) (hlive : ∀ i h, T i h → ∀ b ∈ wr, ∃ o, h.get? b = some o) (hfp : ∀ b ∈ fp, b ∈ wr ∨ ∃ o, V b = some o)
    (hP : ∀ i u, i < ds.length → P i u → ∃ d, ds[i]? = some d ∧ Rep w.params V u d)
    (hgo : ∀ elts k pos i (s : Shared) u (Q : Unit → Shared → Prop) (E : Value → Shared → Prop), T i s.heap → Q () s → wpAny (model prog w) A (letOwnedTupleGo (.Tuple elts k pos) (.ref I) u) Q E s)
    (hR : ∀ V' s', ExtS env [acc :: wr] V s V' s' → StM w.params hB env ρ [(anon, .lst (rs₀ ++ rs))] [[acc]] V' s' → R (.ok .next) s') :
    codeAny (model prog w) A (.compLoop (.ListComp elt gens scope cpos) depth (.ref I) (.ref acc) env) R s := by
  have L : Lp wr fp V T := ⟨W.frame, hfp, hlive⟩
  have hFs : ∀ a ∈ ([acc :: wr] : List (List Addr)).flatten, a ∈ ([acc :: wr] : List (List Addr)).flatten ∨ Own env a ∨ s.heap.get? a = none := fun a h => .inl h
  refine compLoop_any (W := fun Pq s => wpAny (model prog w) A (emitOf (.ref acc) elt env) (fun _ s' => Pq s') (notedBy (model prog w) A env fun e s' => R (.error e) s') s)
    (CompInv w.params hB env ρ acc wr V s T rs₀ rs (fun i todo => Comp1 prog w hB A env target ifs elt ρ (ds.drop i) todo) ds.length)
    (ht _ _) (fun k Q s h => wpAny_bind h) (fun P P' s h hp => wpAny_mono h (fun _ s' h' => hp s' h') fun _ _ e => e) ?_ (ds.length + 1)
    ⟨V, 0, [], rs, by rw [List.append_nil]; exact st, ExtS.refl st.st.held, Nat.zero_le _, rfl, hc, rfl, ⟨fun b hb => ⟨(hwr b hb).1, (hwr b hb).2.1, fun q => (hwr b hb).2.2 (List.mem_singleton.mp q)⟩, st.st.held, V.le_refl, hT⟩⟩
  intro k s' hinv
  cases hinv with
  | intro V' i done todo st' x' hi' hk hc' he t' =>
  subst hk he
  have hfm : ∀ b ∈ wr, ¬ Frm env b := fun b hb => (t'.off b hb).2.1
  by_cases hlt : i < ds.length
  · refine W.item i s' _ _ hlt t'.here fun u h₁ tk₁ hPu hT₁ hk₁ => ?_
    refine (hP i u hlt hPu).elim fun d₁ hd => ?_
    have hc₁ := drop_of hd.1 ▸ hc'
    have st₃ := stm_iter (tk := tk₁) st' t'.off hk₁
    have x₃ := x'.iter hfm (fun _ => in_wr) hk₁ st₃.st.held
    have t₃ : Trk env wr V (T (i + 1)) [[acc]] V' { s' with heap := h₁, toks := tk₁ } := ⟨t'.off, st₃.st.held, t'.le, hT₁⟩
    have hgo' : ∀ (Q : Unit → Shared → Prop) (E : Value → Shared → Prop), Q () { s' with heap := h₁, toks := tk₁ } → wpAny (model prog w) A (letOwnedTupleGo target (.ref I) u) Q E { s' with heap := h₁, toks := tk₁ } := fun Q E hQ => by
      rcases htg with ⟨x, p, rfl⟩ | ⟨ts, k, p, rfl⟩
      · exact wpAny_pure hQ
      · exact hgo ts k p (i + 1) _ u Q _ hT₁ hQ
    refine hgo' _ _ ?_
    refine hc₁.elim (fun ha hfr htst hrest => ?_) fun {r rs' β} he ha hfr htst hel hrest => ?_
    · refine ha _ ρ [[acc]] V' _ u _ _ st₃ (hd.2.mono t'.le) fun s₄ x₄ st₄ => ?_
      refine wpAny_mono (htst V' s₄ _ st₄.st) (fun ok s₅ ⟨hok, V₅, x₅⟩ => ?_) fun _ _ e => e
      subst hok
      rw [if_neg (by simp)]
      exact ⟨ds.length + 1 - (i + 1), loop_less hlt, V₅, i + 1, done, todo, (st₄.ext x₅).mono (fresh_le hfr), (x₃.trans hFs (extS_wr x₄ (F := []))).trans hFs (extS_wr (F := []) x₅.toS), hlt, rfl, hrest, rfl, L.step (L.step t₃ x₄ fun _ h => .inl h) x₅.toS fun _ h => .inl h⟩
    · subst he
      refine ha _ ρ [[acc]] V' _ u _ _ st₃ (hd.2.mono t'.le) fun s₄ x₄ st₄ => ?_
      refine wpAny_mono (htst V' s₄ _ st₄.st) (fun ok s₅ ⟨hok, V₅, x₅⟩ => ?_) fun _ _ e => e
      subst hok
      rw [if_pos rfl]
      unfold emitOf
      have st₅ := st₄.ext x₅
      refine wpAny_bind (wpAny_mono (hel V₅ s₅ _ st₅.st) (fun y s₆ ⟨V₆, x₆, r₆⟩ => wpAny_bind ?_) fun _ _ e => e)
      have x₄₆ := x₄.trans (fun _ h => .inl h) ((x₅.trans x₆).toS)
      refine append_ok (st₅.ext x₆) (by rw [List.length_append, List.length_cons] at hz; rw [List.length_append]; exact Nat.le_trans (Nat.add_le_add_left (Nat.le_add_right _ _) _) hz) r₆ fun s₇ x₇ st₇ => wpAny_pure ?_
      refine ⟨ds.length + 1 - (i + 1), loop_less hlt, V₆, i + 1, done ++ [r], rs', ?_, (x₃.trans hFs (extS_wr x₄₆ (F := []))).trans hFs (extS_wr (F := []) x₇), hlt, rfl, hrest, by rw [List.append_assoc]; rfl, L.step (L.step t₃ x₄₆ fun _ h => .inl h) x₇ fun _ h => .inl h⟩
      rw [← List.append_assoc]
      exact st₇.mono (fresh_le hfr)
  · have he := (List.drop_of_length_le (Nat.not_lt.mp hlt) ▸ hc').isNil
    subst he
    refine W.done s' _ _ (Nat.le_antisymm hi' (Nat.not_lt.mp hlt) ▸ t'.here) fun h₁ tk₁ hk₁ => ?_
    have st₃ := stm_iter (tk := tk₁) st' t'.off hk₁
    exact hR V' _ (x'.iter hfm (fun _ => in_wr) hk₁ st₃.st.held) (by rw [List.append_nil]; exact st₃)
end
end Mine
namespace Mine

/-- the cells that a block takes along -/
noncomputable def closOf (cells : List (Str × Addr)) : List (Str × NameKind) → List (Str × Addr) → List (Str × Addr)
  | [], acc => acc
  | (n, k) :: r, acc => if k == .free then closOf cells r ((n, (cells.lookup n).getD 0) :: acc) else closOf cells r acc

theorem closFor_go {env : Env} : ∀ (names : List (Str × NameKind)) (acc : List (Str × Addr)), (∀ p ∈ names, p.2 = .free → (env.cells.lookup p.1).isSome = true) →
    (forIn names acc (fun (x : Str × NameKind) cs => (do
      if x.2 == .free then
        let c ← cellOf env x.1
        pure (ForInStep.yield ((x.1, c) :: cs))
      else pure (ForInStep.yield cs) : Sem _)) : Sem (List (Str × Addr))) = pure (closOf env.cells names acc)
  | [], acc, _ => rfl
  | (n, k) :: r, acc, h => by
    rw [List.forIn_cons]
    unfold closOf
    by_cases hk : (k == NameKind.free) = true
    · have hs := h (n, k) (.head _) (by simpa using hk)
      obtain ⟨c, hc⟩ := Option.isSome_iff_exists.mp hs
      simp only [hk, if_true, cellOf, hc, Option.getD_some]
      exact closFor_go r ((n, c) :: acc) fun p hp => h p (.tail _ hp)
    · simp only [hk, Bool.false_eq_true, if_false]
      exact closFor_go r acc fun p hp => h p (.tail _ hp)
theorem closFor_eq {scope : Scope} {env : Env} (h : ∀ p ∈ scope.names, p.2 = .free → (env.cells.lookup p.1).isSome = true) : closureFor scope env = pure (closOf env.cells scope.names []) := by
  have := closFor_go (env := env) scope.names [] h
  unfold closureFor
  simp only [bind_pure]
  exact this

theorem closOf_mem {cells : List (Str × Addr)} : ∀ {names : List (Str × NameKind)} {acc : List (Str × Addr)} {x : Str} {c : Addr}, (x, c) ∈ closOf cells names acc → (x, c) ∈ acc ∨ ((x, NameKind.free) ∈ names ∧ c = (cells.lookup x).getD 0)
  | [], _, _, _, h => .inl h
  | (n, k) :: r, acc, x, c, h => by
    unfold closOf at h
    split at h
    · rename_i hk
      rcases closOf_mem h with q | ⟨q, e⟩
      · rcases List.mem_cons.mp q with q | q
        · cases q; exact .inr ⟨by rw [← beq_iff_eq.mp hk]; exact .head _, rfl⟩
        · exact .inl q
      · exact .inr ⟨.tail _ q, e⟩
    · rcases closOf_mem h with q | ⟨q, e⟩
      · exact .inl q
      · exact .inr ⟨.tail _ q, e⟩
theorem closOf_has {cells : List (Str × Addr)} {x : Str} : ∀ {names : List (Str × NameKind)} {acc : List (Str × Addr)}, (x, NameKind.free) ∈ names ∨ (acc.lookup x).isSome = true → ((closOf cells names acc).lookup x).isSome = true
  | [], _, h => h.elim (fun q => nomatch q) id
  | (n, k) :: r, acc, h => by
    unfold closOf
    split
    · rename_i hk
      refine closOf_has ?_
      rcases h with h | h
      · rcases List.mem_cons.mp h with q | q
        · cases q; exact .inr (by simp [List.lookup_cons])
        · exact .inl q
      · refine .inr ?_
        rw [List.lookup_cons]
        split
        · rfl
        · exact h
    · rename_i hk
      refine closOf_has ?_
      rcases h with h | h
      · rcases List.mem_cons.mp h with q | q
        · cases q; exact absurd rfl hk
        · exact .inl q
      · exact .inr h
theorem closOf_apart {cells : List (Str × Addr)} (ha : cells.Pairwise fun x y => x.2 ≠ y.2) : ∀ {names : List (Str × NameKind)} {acc : List (Str × Addr)}, (names.map (·.1)).Nodup → (∀ p ∈ names, p.2 = .free → (cells.lookup p.1).isSome = true) →
    (acc.Pairwise fun x y => x.2 ≠ y.2) → (∀ p ∈ acc, cells.lookup p.1 = some p.2 ∧ p.1 ∉ names.map (·.1)) → (closOf cells names acc).Pairwise fun x y => x.2 ≠ y.2
  | [], _, _, _, h, _ => h
  | (n, k) :: r, acc, hn, hf, h, hc => by
    simp only [List.map_cons, List.nodup_cons] at hn
    unfold closOf
    split
    · rename_i hk
      obtain ⟨c, hcn⟩ := Option.isSome_iff_exists.mp (hf (n, k) (.head _) (by simpa using hk))
      simp only at hcn
      rw [hcn]
      refine closOf_apart ha hn.2 (fun p hp => hf p (.tail _ hp)) (List.pairwise_cons.mpr ⟨fun y hy e => ?_, h⟩) fun p hp => ?_
      · obtain ⟨h1, h2⟩ := hc y hy
        have h3 := name_of_addr ha (mem_of_lookup hcn) (by have := mem_of_lookup h1; rw [← show c = y.2 from e] at this; exact this)
        exact h2 (by rw [← h3]; simp)
      · rcases List.mem_cons.mp hp with rfl | hp
        · exact ⟨hcn, hn.1⟩
        · obtain ⟨h1, h2⟩ := hc p hp
          exact ⟨h1, fun q => h2 (by rw [List.map_cons]; exact .tail _ q)⟩
    · refine closOf_apart ha hn.2 (fun p hp => hf p (.tail _ hp)) h fun p hp => ?_
      obtain ⟨h1, h2⟩ := hc p hp
      exact ⟨h1, fun q => h2 (by rw [List.map_cons]; exact .tail _ q)⟩
end Mine
namespace Mine

theorem cellsFrom_info : ∀ (names : List (Str × NameKind)) (h : Heap) (acc : List (Str × Addr)) (x : Str) (c : Addr), (x, c) ∈ cellsFrom h.objs.size names acc → (x, c) ∈ acc ∨ (h.objs.size ≤ c ∧ (pushCells h names).IsCell c none ∧ (x, NameKind.cell) ∈ names)
  | [], _, _, _, _, m => .inl m
  | (n, k) :: r, h, acc, x, c, m => by
    unfold cellsFrom at m
    unfold pushCells
    split at m
    · rename_i hk
      rw [if_pos hk]
      have hz : (h.push { cls := .type "cell", data := .cell none }).objs.size = h.objs.size + 1 := Heap.size_push ..
      rw [← hz] at m
      rcases cellsFrom_info r _ _ x c m with q | ⟨q1, q2, q3⟩
      · rcases List.mem_cons.mp q with q | q
        · cases q
          exact .inr ⟨Nat.le_refl _, ⟨_, pushCells_keeps _ _ _ _ (Heap.get?_push_size _ rfl), rfl⟩, by rw [beq_iff_eq.mp hk]; exact .head _⟩
        · exact .inl q
      · exact .inr ⟨by rw [hz] at q1; (first | lia | omega), q2, .tail _ q3⟩
    · rename_i hk
      rw [if_neg hk]
      rcases cellsFrom_info r h acc x c m with q | ⟨q1, q2, q3⟩
      · exact .inl q
      · exact .inr ⟨q1, q2, .tail _ q3⟩
theorem cellsFrom_apart : ∀ (names : List (Str × NameKind)) (n : Nat) (acc : List (Str × Addr)), (acc.Pairwise fun x y => x.2 ≠ y.2) → (∀ p ∈ acc, p.2 < n) → (cellsFrom n names acc).Pairwise fun x y => x.2 ≠ y.2
  | [], _, _, h, _ => h
  | (x, k) :: r, n, acc, h, hl => by
    unfold cellsFrom
    split
    · refine cellsFrom_apart r (n + 1) _ (List.pairwise_cons.mpr ⟨fun y hy e => ?_, h⟩) fun p hp => ?_
      · exact absurd (show n = y.2 from e) (Nat.ne_of_gt (hl y hy))
      · rcases List.mem_cons.mp hp with rfl | hp
        · exact Nat.lt_succ_self _
        · exact Nat.lt_succ_of_lt (hl p hp)
    · exact cellsFrom_apart r n acc h hl
theorem cellsFrom_old {x : Str} : ∀ (names : List (Str × NameKind)) (n : Nat) (acc : List (Str × Addr)), (x, NameKind.cell) ∉ names → (cellsFrom n names acc).lookup x = acc.lookup x
  | [], _, _, _ => rfl
  | (y, k) :: r, n, acc, h => by
    unfold cellsFrom
    split
    · rename_i hk
      rw [cellsFrom_old r _ _ fun q => h (.tail _ q), List.lookup_cons]
      have : (x == y) = false := beq_eq_false_iff_ne.mpr fun e => h (by rw [e, beq_iff_eq.mp hk]; exact .head _)
      rw [this]
    · exact cellsFrom_old r n acc fun q => h (.tail _ q)
theorem cellsFrom_new {x : Str} : ∀ (names : List (Str × NameKind)) (n : Nat) (acc : List (Str × Addr)), (x, NameKind.cell) ∈ names ∨ (∃ c, acc.lookup x = some c ∧ n₀ ≤ c) → n₀ ≤ n → ∃ c, (cellsFrom n names acc).lookup x = some c ∧ n₀ ≤ c
  | [], _, _, h, _ => h.elim (fun q => nomatch q) id
  | (y, k) :: r, n, acc, h, hn => by
    unfold cellsFrom
    split
    · rename_i hk
      refine cellsFrom_new r (n + 1) _ ?_ (Nat.le_succ_of_le hn)
      rcases h with h | ⟨c, hc, hl⟩
      · rcases List.mem_cons.mp h with q | q
        · cases q; exact .inr ⟨n, by simp, hn⟩
        · exact .inl q
      · refine .inr ?_
        rw [List.lookup_cons]
        split
        · exact ⟨n, rfl, hn⟩
        · exact ⟨c, hc, hl⟩
    · rename_i hk
      refine cellsFrom_new r n acc ?_ hn
      rcases h with h | h
      · rcases List.mem_cons.mp h with q | q
        · cases q; exact absurd rfl hk
        · exact .inl q
      · exact .inr h

theorem relabel_fst {env : Env} (names : List (Str × NameKind)) (x : Str) (k : NameKind) (hk : k ≠ .free) : names.lookup x = some k →
    (names.map fun (n, k) => if (k == NameKind.free && env.scope.kind == .function && env.kindOf n == some .cell) then (n, NameKind.cell) else (n, k)).lookup x = some k := by
  induction names with
  | nil => intro h; simp at h
  | cons p r ih =>
    obtain ⟨n, j⟩ := p
    intro h
    rw [List.map_cons]
    by_cases hx : (x == n) = true
    · rw [List.lookup_cons, hx] at h
      cases h
      have : (k == NameKind.free) = false := by cases k <;> first | rfl | exact absurd rfl hk
      simp only [this, Bool.false_and, Bool.false_eq_true, if_false, List.lookup_cons, hx]
    · have hx' : (x == n) = false := by simpa using hx
      rw [List.lookup_cons, hx'] at h
      by_cases hc : (j == NameKind.free && env.scope.kind == .function && env.kindOf n == some .cell) = true
      · simp only [hc, if_true, List.lookup_cons, hx']; exact ih h
      · simp only [hc, Bool.false_eq_true, if_false, List.lookup_cons, hx']; exact ih h
theorem relabel_free {env : Env} (names : List (Str × NameKind)) (x : Str) : names.lookup x = some .free →
    (names.map fun (n, k) => if (k == NameKind.free && env.scope.kind == .function && env.kindOf n == some .cell) then (n, NameKind.cell) else (n, k)).lookup x = some .cell ∨
    (names.map fun (n, k) => if (k == NameKind.free && env.scope.kind == .function && env.kindOf n == some .cell) then (n, NameKind.cell) else (n, k)).lookup x = some .free := by
  induction names with
  | nil => intro h; simp at h
  | cons p r ih =>
    obtain ⟨n, j⟩ := p
    intro h
    rw [List.map_cons]
    by_cases hx : (x == n) = true
    · rw [List.lookup_cons, hx] at h
      cases h
      by_cases hc : (NameKind.free == NameKind.free && env.scope.kind == .function && env.kindOf n == some .cell) = true
      · left; simp only [hc, if_true, List.lookup_cons, hx]
      · right; simp only [hc, Bool.false_eq_true, if_false, List.lookup_cons, hx]
    · have hx' : (x == n) = false := by simpa using hx
      rw [List.lookup_cons, hx'] at h
      by_cases hc : (j == NameKind.free && env.scope.kind == .function && env.kindOf n == some .cell) = true
      · simp only [hc, if_true, List.lookup_cons, hx']; exact ih h
      · simp only [hc, Bool.false_eq_true, if_false, List.lookup_cons, hx']; exact ih h

/-- a comprehension's own block -/
structure CEnv (scope : Scope) (ce : Env) : Prop where
  kind : ∀ x k, scope.names.lookup x = some k → k ≠ .free → ce.kindOf x = some k
  kindF : ∀ x, scope.names.lookup x = some .free → ce.kindOf x = some .cell ∨ ce.kindOf x = some .free
  own : ∀ x, (x, NameKind.cell) ∈ scope.names → ∃ c, ce.cells.lookup x = some c ∧ ce.locals < c
  free : ∀ x, (x, NameKind.free) ∈ scope.names → ∃ c, ce.cells.lookup x = some c

noncomputable def compEnvG (scope : Scope) (cl : List (Str × Addr)) (C : Addr) (env : Env) : Env :=
  { scope := relabel scope env, locals := C, globals := env.globals, cells := cellsFrom (C + 1) scope.names cl, qual := env.qual, func := none, code := env.code, frame := env.frame, builtins := env.builtins }

section
variable {prog : Program} {w : World} {hB : Heap} {A : Around} {env : Env} {ρ : Nm}

theorem newEnv_comp {scope : Scope} {cl : List (Str × Addr)} {s : Shared} {E : Value → Shared → Prop} {Q : Env → Shared → Prop}
    (h : Q { scope := scope, locals := s.heap.objs.size, globals := env.globals, cells := cellsFrom (s.heap.objs.size + 1) scope.names cl, qual := env.qual, func := none, code := env.code, frame := env.frame, builtins := env.builtins }
      { s with heap := pushCells (s.heap.push { cls := .type "dict", data := .dict #[] }) scope.names }) :
    wpAny (model prog w) A (newFunctionEnv scope env.globals cl [] env.qual none .none (some env)) Q E s := by
  simp only [newFunctionEnv, Option.isSome_some, if_true]
  refine wpAny_bind (wpAny_alloc ?_)
  refine wpAny_bind (wpAny_layCells _ (fun name kind cells => by cases hkc : kind == NameKind.cell <;> simp [hkc]) _ _ _ _ ?_)
  rw [show ({ s with heap := s.heap.push { cls := .type "dict", data := .dict #[] } } : Shared).heap.objs.size = s.heap.objs.size + 1 from Heap.size_push ..]
  exact wpAny_bind (wpAny_pure (wpAny_pure h))

/-- a comprehension's clauses gather -/
noncomputable def Gath (prog : Program) (w : World) (hB : Heap) (A : Around) (ce : Env) (elt : Expr) (gens : List Comprehension) (scope : Scope) (pos : Pos) (ρ : Nm) (ds rs : List D) : Prop :=
  ∀ (R : Result → Shared → Prop) (I acc : Addr) (fp wr : List Addr) (P : Nat → Value → Prop) (T : Nat → Heap → Prop) (V : Vw) (s : Shared), StM w.params hB ce ρ [(anon, .lst [])] [[acc]] V s →
    Walks prog w A I fp wr ds.length P T → T 0 s.heap → (∀ b ∈ wr, V b = none ∧ ¬ Frm ce b ∧ b ≠ acc) → (∀ i h, T i h → ∀ b ∈ wr, ∃ o, h.get? b = some o) → (∀ b ∈ fp, b ∈ wr ∨ ∃ o, V b = some o) →
    (∀ i u, i < ds.length → P i u → ∃ d, ds[i]? = some d ∧ Rep w.params V u d) →
    (∀ elts k pos i (s : Shared) u (Q : Unit → Shared → Prop) (E : Value → Shared → Prop), T i s.heap → Q () s → wpAny (model prog w) A (letOwnedTupleGo (.Tuple elts k pos) (.ref I) u) Q E s) →
    (∀ V' s', ExtS ce [acc :: wr] V s V' s' → StM w.params hB ce ρ [(anon, .lst rs)] [[acc]] V' s' → R (.ok .next) s') →
    codeAny (model prog w) A (.compLoop (.ListComp elt gens scope pos) 0 (.ref I) (.ref acc) ce) R s

theorem Gath.one {ce : Env} {elt target iter : Expr} {ifs : List Expr} {scope : Scope} {pos : Pos} {ds rs : List D} (htg : (∃ x p, target = .Name x p) ∨ ∃ ts k p, target = .Tuple ts k p) (hz : rs.length ≤ 1000000)
    (h : Comp1 prog w hB A ce target ifs elt ρ ds rs) : Gath prog w hB A ce elt [⟨target, iter, ifs, 0⟩] scope pos ρ ds rs := fun R I acc fp wr P T V s st W hT hwr hlive hfp hP hgo hR =>
  comp1_loop (fun it acc => turn_one elt target iter ifs scope pos it acc ce) htg h st (by simpa using hz) W hT hwr hlive hfp hP hgo fun V' s' x st' => hR V' s' x (by simpa using st')

/-- what a scope must be -/
structure ScOk (scope : Scope) (env : Env) : Prop where
  fn : scope.kind = .function
  nd : (scope.names.map (·.1)).Nodup
  free : ∀ x, (x, NameKind.free) ∈ scope.names → ∃ c, env.cells.lookup x = some c

theorem lookup_of_nd {α : Type} : ∀ {l : List (Str × α)} {x : Str} {k : α}, (l.map (·.1)).Nodup → (x, k) ∈ l → l.lookup x = some k
  | (y, j) :: r, x, k, hn, hm => by
    simp only [List.map_cons, List.nodup_cons] at hn
    rcases List.mem_cons.mp hm with e | hm
    · cases e; simp
    · have : (x == y) = false := beq_eq_false_iff_ne.mpr fun e => hn.1 (by rw [← e]; exact List.mem_map.mpr ⟨_, hm, rfl⟩)
      rw [List.lookup_cons, this]; exact lookup_of_nd hn.2 hm

theorem comp_core {elt target iter : Expr} {ifs : List Expr} {rest : List Comprehension} {scope : Scope} {pos p₀ : Pos} {ρ₀ : Nm} {d : D} {ds rs : List D} {use : Option (Value → Sem Unit)} {V : Vw} {s : Shared} {E : Value → Shared → Prop} {Q : Value → Shared → Prop}
    (st : St w.params hB env ρ V s) (hi : Ev prog w hB A env ρ iter d) (hI : Itr prog w hB A d ds) (hS : ScOk scope env) (hρ : ∀ x d, ρ₀.lookup x = some d → ρ.lookup x = some d ∧ scope.names.lookup x = some .free ∧ env.kindOf x ≠ some .local)
    (hG : ∀ ce, CEnv scope ce → ce.frame = env.frame → Gath prog w hB A ce elt (⟨target, iter, ifs, 0⟩ :: rest) scope pos ρ₀ ds rs)
    (hQ : ∀ acc C V' s', Ext env V s V' s' → Rep w.params V' (.ref acc) (.lst rs) → V' C = none → s.heap.get? C = none → (∃ m, s'.heap.Ns C m) → s.heap.get? acc = none → compPost (model prog w) A E use Q (.ref acc) C (.ok .next) s')
    (hs : ∀ x, foldedSetIterable iter env x = pure x) :
    wpAny (model prog w) A (comprehension (.ListComp elt (⟨target, iter, ifs, 0⟩ :: rest) scope pos) scope env p₀ (newList []) false (eval iter env) use) Q E s := by
  have hfree : ∀ p ∈ scope.names, p.2 = .free → (env.cells.lookup p.1).isSome = true := fun p hp hk => by
    obtain ⟨c, hc⟩ := hS.free p.1 (by rw [← hk]; exact hp); rw [hc]; rfl
  refine wpAny_comprehension_free (g := ⟨target, iter, ifs, 0⟩) (gs := rest) rfl hs (closFor_eq hfree) hS.fn (fun x hx hl => by obtain ⟨x, k⟩ := x; cases hl; exact lookup_of_nd hS.nd hx) ?_
  refine wpAny_mono (hi V s E st) (fun v s₁ ⟨V₁, y₁, r₁⟩ => ?_) fun _ _ e => e
  have st₁ := st.ext y₁
  refine hI V₁ s₁ v E _ st₁.held r₁ fun I fp wr P T V₂ s₂ y₂ W hT hwr hlive hfp hP hgo => ?_
  have st₂ := st₁.ext (y₂.toExt _)
  have Y := y₁.trans (y₂.toExt _)
  -- what is gathered
  refine wpAny_newObj_type ?_
  have ya := ExtF.of_keep (t := s₂.toks) st₂.held (h' := s₂.heap.push (lstObj [] 0)) fun a o e => Heap.get?_push_of_some _ e
  have hacc : (s₂.heap.push (lstObj [] 0)).get? s₂.heap.objs.size = some (lstObj [] 0) := Heap.get?_push_size _ rfl
  have hz₃ : (s₂.heap.push (lstObj [] 0)).objs.size = s₂.heap.objs.size + 1 := Heap.size_push ..
  generalize hacca : s₂.heap.objs.size = acc at hacc hz₃ ⊢
  refine newEnv_comp ?_
  dsimp only
  rw [hz₃]
  generalize hH : pushCells ((s₂.heap.push (lstObj [] 0)).push { cls := .type "dict", data := .dict #[] }) scope.names = H
  obtain ⟨C, hC⟩ : ∃ C : Nat, C = acc + 1 := ⟨_, rfl⟩
  rw [← hC]
  let ce : Env := compEnvG scope (closOf env.cells scope.names []) C env
  have hzC : ((s₂.heap.push (lstObj [] 0)).push { cls := .type "dict", data := .dict #[] }).objs.size = C + 1 := by rw [Heap.size_push, hz₃, hC]
  have hup3 : ∀ a o, (s₂.heap.push (lstObj [] 0)).get? a = some o → H.get? a = some o := fun a o e => by
    rw [← hH]; exact pushCells_keeps _ _ _ _ (Heap.get?_push_of_some _ e)
  have hup : ∀ a o, s₂.heap.get? a = some o → H.get? a = some o := fun a o e => hup3 a o (Heap.get?_push_of_some _ e)
  have hCn : H.Ns C fun _ => none := by
    have := Heap.Ns.new (s₂.heap.push (lstObj [] 0)) (.type "dict")
    rw [hz₃, ← hC] at this
    rw [← hH]; exact this.keeps (pushCells_keeps _ _)
  have f₂ : ∀ a, acc ≤ a → s₂.heap.get? a = none := fun a ha => get_size_none _ (by rw [hacca]; exact ha)
  have hlow : hB.objs.size ≤ acc := by rw [← hacca]; exact st₂.low
  have hcl : ∀ x c, (x, c) ∈ closOf env.cells scope.names [] → env.cells.lookup x = some c := fun x c hm => by
    rcases closOf_mem hm with q | ⟨q, e⟩
    · exact nomatch q
    · obtain ⟨c', hc'⟩ := hS.free x q
      rw [e, hc']; rfl
  have hclt : ∀ p ∈ closOf env.cells scope.names [], p.2 < acc := fun p hp => by
    obtain ⟨_, _, _, _, o, ho, _⟩ := st₂.cell p.1 p.2 (hcl p.1 p.2 hp)
    rw [← hacca]; exact Heap.lt_size ho
  have hcells : ∀ x c, ce.cells.lookup x = some c → (env.cells.lookup x = some c ∧ c < acc) ∨ (C < c ∧ H.IsCell c none ∧ (x, NameKind.cell) ∈ scope.names) := fun x c hc => by
    have hm := mem_of_lookup hc
    have hm' : (x, c) ∈ cellsFrom ((s₂.heap.push (lstObj [] 0)).push { cls := .type "dict", data := .dict #[] }).objs.size scope.names (closOf env.cells scope.names []) := by rw [hzC]; exact hm
    rcases cellsFrom_info _ _ _ x c hm' with q | ⟨q1, q2, q3⟩
    · exact .inl ⟨hcl x c q, hclt _ q⟩
    · rw [hzC] at q1; rw [hH] at q2; exact .inr ⟨by (first | lia | omega), q2, q3⟩
  have hce : CEnv scope ce := by
    refine ⟨fun x k hx hk => relabel_fst scope.names x k hk hx, fun x hx => relabel_free scope.names x hx, fun x hx => ?_, fun x hx => ?_⟩
    · obtain ⟨c, hc, hl⟩ := cellsFrom_new (n₀ := C + 1) scope.names (C + 1) (closOf env.cells scope.names []) (.inl hx) (Nat.le_refl _)
      exact ⟨c, hc, hl⟩
    · have hnc : (x, NameKind.cell) ∉ scope.names := fun q => by
        have a := lookup_of_nd hS.nd hx
        have b := lookup_of_nd hS.nd q
        rw [a] at b; cases b
      have h1 := cellsFrom_old (x := x) scope.names (C + 1) (closOf env.cells scope.names []) hnc
      obtain ⟨c, hc⟩ := Option.isSome_iff_exists.mp (closOf_has (cells := env.cells) (acc := []) (.inl hx))
      exact ⟨c, h1.trans hc⟩
  have hfr : ∀ a, acc ≤ a → V₂ a = none := fun a ha => st₂.held.gone (f₂ a ha)
  have hAccC : acc ≠ C := Nat.ne_of_lt (by (first | lia | omega))
  have stc : StM w.params hB ce ρ₀ [(anon, .lst [])] [[acc]] V₂ { s₂ with heap := H } := by
    refine ⟨{ base := st₂.base, held := fun a o e => hup a o (st₂.held a o e), fn := hS.fn, glob := st₂.glob, blt := st₂.blt, above := by show hB.objs.size ≤ C; (first | lia | omega), locV := hfr C (by (first | lia | omega)), ns := ⟨_, hCn⟩,
              cell := fun x c hc => ?_, apart := ?_, frm := fun f hf => (let ⟨h1, m, n⟩ := st₂.frm f hf; ⟨h1, m, n.keeps hup⟩), names := fun x d hx => ?_ }, .cons (by decide) (fun q => absurd rfl q) (.lst (hup3 _ _ hacc) .nil) .nil, by simp, fun a ha => ?_⟩
    · rcases hcells x c hc with ⟨q, ql⟩ | ⟨q1, q2, _⟩
      · obtain ⟨h1, h2, h3, v, o, ho, hd⟩ := st₂.cell x c q
        exact ⟨h1, Nat.ne_of_lt (by show c < C; rw [hC]; exact Nat.lt_succ_of_lt ql), h3, v, o, hup c o ho, hd⟩
      · exact ⟨hfr c (by show acc ≤ c; (first | lia | omega)), Nat.ne_of_gt q1, by (first | lia | omega), none, q2⟩
    · refine cellsFrom_apart _ _ _ (closOf_apart st₂.apart hS.nd hfree .nil fun _ h => nomatch h) fun p hp => ?_
      rw [hC]; exact Nat.lt_succ_of_lt (Nat.lt_succ_of_lt (hclt p hp))
    · obtain ⟨h1, h2, h2'⟩ := hρ x d hx
      obtain ⟨hd, v, r, l⟩ := st₂.names x d h1
      refine ⟨hd, v, r, ?_⟩
      have hmem : (x, NameKind.free) ∈ scope.names := mem_of_lookup h2
      obtain ⟨c, hc⟩ := hS.free x hmem
      obtain ⟨c', hc'⟩ := hce.free x hmem
      have hcc : c' = c := by
        rcases hcells x c' hc' with ⟨q, _⟩ | ⟨_, _, q⟩
        · rw [hc] at q; exact (Option.some.inj q).symm
        · have a := lookup_of_nd hS.nd hmem
          have b := lookup_of_nd hS.nd q
          rw [a] at b; cases b
      subst hcc
      have hclt' : c' < acc := by
        obtain ⟨_, _, _, _, o, ho, _⟩ := st₂.cell x c' hc
        rw [← hacca]; exact Heap.lt_size ho
      refine .inr ⟨hce.kindF x h2, c', hc', Nat.ne_of_lt (by show c' < C; rw [hC]; exact Nat.lt_succ_of_lt hclt'), ?_⟩
      rcases l with ⟨k, m, n, e⟩ | ⟨k, c'', hc'', hcl', hv⟩
      · exact absurd k h2'
      · rw [hc] at hc''; cases hc''
        obtain ⟨o, ho, hd⟩ := hv
        exact ⟨o, hup c' o ho, hd⟩
    · have ha' : a = acc := by simpa using ha
      subst ha'
      refine ⟨hfr _ (Nat.le_refl _), ⟨hAccC, fun q => ?_⟩, fun x c hc => ?_⟩
      · obtain ⟨_, m, n⟩ := st₂.frm _ q
        exact absurd n.lt (by rw [hacca]; exact Nat.lt_irrefl _)
      rcases hcells x c hc with ⟨q, ql⟩ | ⟨q1, _⟩
      · exact Nat.ne_of_lt ql
      · exact Nat.ne_of_gt (by (first | lia | omega))
  -- the loop
  have hTH : T 0 H := W.frame 0 _ _ hT fun b hb o e => hup b o e
  have hwrH : ∀ b ∈ wr, V₂ b = none ∧ ¬ Frm ce b ∧ b ≠ acc := fun b hb => by
    obtain ⟨h1, h2⟩ := hwr b hb
    obtain ⟨o, ho⟩ := hlive 0 _ hT b hb
    have hlt : b < acc := by rw [← hacca]; exact Heap.lt_size ho
    refine ⟨h1, fun q => ?_, Nat.ne_of_lt hlt⟩
    rcases q with (q | q) | ⟨x, q⟩
    · exact absurd (show b = C from q) (Nat.ne_of_lt (by rw [hC]; exact Nat.lt_succ_of_lt hlt))
    · obtain ⟨_, m, o', _, _, ho', _⟩ := st₁.frm b q; exact no h2 ho'
    · rcases hcells x b q with ⟨q, _⟩ | ⟨q1, _⟩
      · obtain ⟨_, _, _, _, o', ho', _⟩ := st₁.cell x b q; exact no h2 ho'
      · exact absurd (Nat.lt_trans q1 hlt) (by rw [hC]; exact Nat.not_lt.mpr (Nat.le_succ _))
  have hold : ∀ a o, s.heap.get? a = some o → a ∉ wr ∧ a < acc := fun a o e => by
    obtain ⟨o₁, e₁⟩ := y₁.someAt a o e
    refine ⟨fun q => ?_, ?_⟩
    · rw [(hwr a q).2] at e₁; cases e₁
    · obtain ⟨o₂, e₂⟩ := Y.someAt a o e; rw [← hacca]; exact Heap.lt_size e₂
  have hownf : ∀ a, Own ce a → env.frame ≠ some a → acc ≤ a := fun a q nf => by
    rcases q with (q | q) | ⟨x, q, ql⟩
    · rw [show a = C from q]; (first | lia | omega)
    · exact absurd q nf
    · have : C < a := ql; (first | lia | omega)
  have hR : ∀ V' s', ExtS ce [acc :: wr] V₂ { s₂ with heap := H } V' s' → StM w.params hB ce ρ₀ [(anon, .lst rs)] [[acc]] V' s' → compPost (model prog w) A E use Q (.ref acc) C (.ok .next) s' := by
    intro V' s' x' st'
    obtain ⟨vs, n, _, e, rr⟩ := st'.mu.lstAt
    have hVacc : V' acc = none := (st'.off acc (by simp)).1
    have keepN : ∀ a o, a < acc → a ∉ wr → env.frame ≠ some a → s₂.heap.get? a = some o → s'.heap.get? a = some o := fun a o hlt hw nf e =>
      x'.keep a o (fun q => absurd (hownf a q nf) (Nat.not_le.mpr hlt)) (fun q => (mem_accwr.mp q).elim (fun q => absurd q (Nat.ne_of_lt hlt)) hw) (hup a o e)
    refine hQ acc C (V'.put acc (lstObj vs n)) s' ⟨?_, fun a o hne nf e => ?_, fun o e => ?_, fun m hn => ?_, fun f o hf e => ?_, fun f m hf hn => ?_, fun a o e => ?_, fun a o e => ?_, fun a o e => ?_⟩ (.lst (Vw.put_self ..) (rr.mono (Vw.le_put hVacc))) ?_ ?_ st'.st.ns (get_none_back (fun o q => Y.someAt acc o q) (f₂ acc (Nat.le_refl _)))
    · obtain ⟨h1, t1, e1⟩ := Y.same; obtain ⟨h2, t2, e2⟩ := x'.same; exact ⟨h2, t2, by rw [e2, e1]⟩
    · obtain ⟨h1, h2⟩ := hold a o e
      exact keepN a o h2 h1 nf (Y.keep a o hne nf e)
    · by_cases nf : env.frame = some env.locals
      · obtain ⟨_, m, o', _, _, ho', _⟩ := st'.st.frm _ nf
        exact ⟨o', ho'⟩
      · obtain ⟨o', e'⟩ := Y.loc o e
        obtain ⟨h1, h2⟩ := hold _ o e
        exact ⟨o', keepN _ o' h2 h1 nf e'⟩
    · have hn₂ := Y.ns m hn
      obtain ⟨o, es, ep, ho, hrest⟩ := hn
      obtain ⟨h1, h2⟩ := hold _ o ho
      by_cases nf : env.frame = some env.locals
      · exact x'.nsF _ m nf (Nat.ne_of_lt (by show env.locals < C; rw [hC]; exact Nat.lt_succ_of_lt h2)) (hn₂.keeps hup)
      · exact hn₂.at' fun o e => keepN _ o h2 h1 nf e
    · obtain ⟨_, m, o', _, _, ho', _⟩ := st'.st.frm _ hf
      exact ⟨o', ho'⟩
    · have hn₂ := Y.nsF f m hf hn
      obtain ⟨o, es, ep, ho, hrest⟩ := hn
      obtain ⟨h1, h2⟩ := hold _ o ho
      exact x'.nsF _ m hf (Nat.ne_of_lt (by show f < C; rw [hC]; exact Nat.lt_succ_of_lt h2)) (hn₂.keeps hup)
    · rw [V'.put_ne]
      · exact x'.le a o (Y.le a o e)
      · intro q; have := x'.le a o (Y.le a o e); rw [q, hVacc] at this; cases this
    · have back : ∀ b, s₂.heap.get? b = none → s.heap.get? b = none := fun b e => get_none_back (fun o q => Y.someAt b o q) e
      by_cases q : a = acc
      · exact .inr (back a (f₂ a (by rw [q]; exact Nat.le_refl _)))
      · rw [V'.put_ne _ q] at e
        rcases x'.new a o e with q' | q' | q' | q'
        · exact Y.new a o q'
        · rcases mem_accwr.mp q' with q' | q'
          · exact absurd q' q
          · refine .inr ?_
            cases hs : s.heap.get? a with
            | none => rfl
            | some o' => exact absurd q' (hold a o' hs).1
        · by_cases nf : env.frame = some a
          · have h1 := (st₂.frm a nf).1
            obtain ⟨h2, _⟩ := st'.st.frm a nf
            exact no h2 e
          · exact .inr (back a (f₂ a (hownf a q' nf)))
        · exact .inr (back a (get_none_back (h' := H) (fun o q => ⟨o, hup a o q⟩) q'))
    · by_cases q : a = acc
      · subst q; rw [V'.put_self] at e; cases e; assumption
      · rw [V'.put_ne _ q] at e; exact st'.st.held a o e
    · rw [V'.put_ne _ (Ne.symm hAccC)]; exact st'.st.locV
    · exact get_none_back (fun o q => Y.someAt C o q) (f₂ C (by (first | lia | omega)))
  have loop := hG ce hce rfl (compPost (model prog w) A E use Q (.ref acc) C) I acc fp wr P T V₂ { s₂ with heap := H } stc W hTH hwrH hlive hfp hP hgo hR
  exact compStart_any (target := target) (iter := iter) (ifs := ifs) rfl loop (W.self 0 _ _ _ hTH loop)
end
end Mine
namespace Mine
section
variable {prog : Program} {w : World} {hB : Heap} {A : Around} {env : Env} {ρ : Nm} {μ : List (Str × Mu)}

theorem ext_sameBut {L : Env} {C : Addr} {V V' : Vw} {s s' : Shared} {h' : Heap} (x : Ext L V s V' s') (hC : V' C = none) (hs0 : s.heap.get? C = none) (hL : ∃ o, s.heap.get? L.locals = some o) (hs : Heap.SameBut C s'.heap h') : Ext L V s V' { s' with heap := h' } := by
  obtain ⟨oL, hoL⟩ := hL
  have hLC : L.locals ≠ C := ne_none hs0 hoL
  exact ⟨by obtain ⟨h1, t1, e1⟩ := x.same; exact ⟨h', t1, by rw [e1]⟩, fun a o n n' e => hs.extBut a o (ne_none hs0 e) (x.keep a o n n' e), fun o e => let ⟨o', e'⟩ := x.loc o e; ⟨o', hs.extBut _ o' hLC e'⟩,
    fun m n => (x.ns m n).sameBut hs hLC, fun f o hf e => let ⟨o', e'⟩ := x.locF f o hf e; ⟨o', hs.extBut _ o' (ne_none hs0 e) e'⟩,
    fun f m hf n => (x.nsF f m hf n).sameBut hs (fun q => by obtain ⟨o, _, _, e, _⟩ := n; rw [q, hs0] at e; cases e), x.le, x.new, fun a o e => hs.extBut a o (ne_none hC e) (x.held a o e)⟩

theorem Ev.comp {elt target iter : Expr} {ifs : List Expr} {rest : List Comprehension} {scope : Scope} {pos : Pos} {ρ₀ : Nm} {d : D} {ds rs : List D}
    (hi : Ev prog w hB A env ρ iter d) (hI : Itr prog w hB A d ds) (hS : ScOk scope env) (hρ : ∀ x d, ρ₀.lookup x = some d → ρ.lookup x = some d ∧ scope.names.lookup x = some .free ∧ env.kindOf x ≠ some .local)
    (hG : ∀ ce, CEnv scope ce → Gath prog w hB A ce elt (⟨target, iter, ifs, 0⟩ :: rest) scope pos ρ₀ ds rs) (hs : ∀ x, foldedSetIterable iter env x = pure x := by intro _; rfl) :
    Ev prog w hB A env ρ (.ListComp elt (⟨target, iter, ifs, 0⟩ :: rest) scope pos) (.lst rs) := fun V s E st => by
  show wpAny _ A (comprehension (.ListComp elt (⟨target, iter, ifs, 0⟩ :: rest) scope pos) scope env _ (newList []) false (eval iter env)) _ _ s
  refine comp_core (use := none) st hi hI hS hρ (fun ce h _ => hG ce h) (fun acc C V' s' x r hVC hsC hns _ => ?_) hs
  obtain ⟨m, hm⟩ := hns
  refine ⟨m, hm, fun h' hs' => ⟨V', ext_sameBut x hVC hsC ?_ hs', r⟩⟩
  obtain ⟨mL, o, _, _, ho, _⟩ := st.ns
  exact ⟨o, ho⟩

/-- «y = [..]», the stores exchanged -/
theorem Ex1.assignCompF {elt target iter : Expr} {ifs : List Expr} {rest : List Comprehension} {scope : Scope} {pos : Pos} {ρ₀ : Nm} {d : D} {ds rs : List D} {y : Str} {py spos : Pos}
    (hsw : swapsWith (.ListComp elt (⟨target, iter, ifs, 0⟩ :: rest) scope pos) (some (.Name y py)) spos.line env = pure true) (hy : Storable env y) (hm : ∀ p ∈ μ, p.1 ≠ y)
    (hi : Ev prog w hB A env ρ iter d) (hI : Itr prog w hB A d ds) (hS : ScOk scope env) (hρ : ∀ x d, ρ₀.lookup x = some d → ρ.lookup x = some d ∧ scope.names.lookup x = some .free ∧ env.kindOf x ≠ some .local)
    (hG : ∀ ce, CEnv scope ce → ce.frame = env.frame → Gath prog w hB A ce elt (⟨target, iter, ifs, 0⟩ :: rest) scope pos ρ₀ ds rs) (hs : ∀ x, foldedSetIterable iter env x = pure x := by intro _; rfl) :
    Ex1 prog w hB A env ρ μ (.Assign [.Name y py] (.ListComp elt (⟨target, iter, ifs, 0⟩ :: rest) scope pos) spos) (.next ((y, .lst rs) :: ρ) μ) := fun F V s E st => by
  rw [exec_Assign_Name_used _ _ _ _ hsw]
  refine wpAny_bind (wpAny_standAt (wpAny_bind ?_))
  show wpAny _ A (do let _ ← comprehension (.ListComp elt (⟨target, iter, ifs, 0⟩ :: rest) scope pos) scope env _ (newList []) false (eval iter env) (some (PySem.assign (.Name y py) env))) _ _ s
  refine wpAny_bind (wpAny_mono (comp_core (use := some (PySem.assign (.Name y py) env)) (Q := fun _ s' => SPost w.params hB env F V s (.next ((y, .lst rs) :: ρ) μ) .next s') st.st hi hI hS hρ hG (fun acc C V' s' x r hVC hsC hns _ => ?_) hs) (fun _ s' hq => wpAny_pure (wpAny_pure hq)) fun _ _ e => e)
  have st' := st.ext x
  refine wpAny_assign_Name (store_ok st' hy hm r fun s'' z st'' => ?_)
  -- C is nobody's
  have hCF : ¬ Frm env C := st.st.fresh hsC
  have hCM : C ∉ F.flatten := st.fresh hsC
  obtain ⟨m, hm⟩ := hns
  refine ⟨m, ?_, fun h' hs' => ?_⟩
  · obtain ⟨o, es, ep, ho, hr⟩ := hm
    exact ⟨o, es, ep, z.keep C o (fun q => hCF q.frm) hCM ho, hr⟩
  · have hwr : ∀ b ∈ [C], V' b = none ∧ ¬ Frm env b ∧ b ∉ F.flatten := fun b hb => by rw [List.mem_singleton.mp hb]; exact ⟨hVC, hCF, hCM⟩
    have st₃ := stm_iter (wr := [C]) (h' := h') (tk := s''.toks) st'' hwr fun b o hb e => hs'.extBut b o (fun q => hb (by simp [q])) e
    have y₂ := x.toS.trans (F := F) (fun _ h => .inl h) z
    refine ⟨V', ⟨by obtain ⟨h1, t1, e1⟩ := y₂.same; exact ⟨h', t1, by rw [e1]⟩, fun a o n1 n2 e => hs'.extBut a o (ne_none hsC e) (y₂.keep a o n1 n2 e), y₂.le, y₂.new, st₃.st.held, fun f m hf hne n => (y₂.nsF f m hf hne n).sameBut hs' (fun q => hCF (.inl (.inr (q ▸ hf))))⟩, rfl, F, fun _ h => .inl h, st₃⟩

theorem Ex1.assignComp {elt target iter : Expr} {ifs : List Expr} {rest : List Comprehension} {scope : Scope} {pos : Pos} {ρ₀ : Nm} {d : D} {ds rs : List D} {y : Str} {py spos : Pos}
    (hsw : swapsWith (.ListComp elt (⟨target, iter, ifs, 0⟩ :: rest) scope pos) (some (.Name y py)) spos.line env = pure true) (hy : Storable env y) (hm : ∀ p ∈ μ, p.1 ≠ y)
    (hi : Ev prog w hB A env ρ iter d) (hI : Itr prog w hB A d ds) (hS : ScOk scope env) (hρ : ∀ x d, ρ₀.lookup x = some d → ρ.lookup x = some d ∧ scope.names.lookup x = some .free ∧ env.kindOf x ≠ some .local)
    (hG : ∀ ce, CEnv scope ce → Gath prog w hB A ce elt (⟨target, iter, ifs, 0⟩ :: rest) scope pos ρ₀ ds rs) (hs : ∀ x, foldedSetIterable iter env x = pure x := by intro _; rfl) :
    Ex1 prog w hB A env ρ μ (.Assign [.Name y py] (.ListComp elt (⟨target, iter, ifs, 0⟩ :: rest) scope pos) spos) (.next ((y, .lst rs) :: ρ) μ) :=
  Ex1.assignCompF hsw hy hm hi hI hS hρ (fun ce h _ => hG ce h) hs

theorem Comp2.elim {target : Expr} {ifs : List Expr} {target' iter' : Expr} {ifs' : List Expr} {elt : Expr} {d : D} {ds rs : List D} {G : Prop} (h : Comp2 prog w hB A env target ifs target' iter' ifs' elt ρ (d :: ds) rs)
    (f : ∀ {d' : D} {ds' rs₁ rs' : List D} {β : Nm}, rs = rs₁ ++ rs' → (∀ q, Asg prog w hB A env [(anon, .lst q)] target d β) → fresh β ρ = true → TstL prog w hB A env (β ++ ρ) ifs true → Ev prog w hB A env (β ++ ρ) iter' d' → Itr prog w hB A d' ds' →
      Comp1 prog w hB A env target' ifs' elt (β ++ ρ) ds' rs₁ → Comp2 prog w hB A env target ifs target' iter' ifs' elt ρ ds rs' → G) : G := by
  cases h with
  | take a b c e i k r => exact f rfl a b c e i k r
theorem Comp2.isNil {target : Expr} {ifs : List Expr} {target' iter' : Expr} {ifs' : List Expr} {elt : Expr} {rs : List D} (h : Comp2 prog w hB A env target ifs target' iter' ifs' elt ρ [] rs) : rs = [] := by cases h; rfl
/-- two clauses -/
theorem Gath.two {ce : Env} {elt target iter target' iter' : Expr} {ifs ifs' : List Expr} {scope : Scope} {pos : Pos} {ds rs : List D} (htg : ∃ x p, target = .Name x p) (htg' : ∃ x p, target' = .Name x p) (hz : rs.length ≤ 1000000)
    (hs : ∀ x, foldedSetIterable iter' ce x = pure x)
    (h : Comp2 prog w hB A ce target ifs target' iter' ifs' elt ρ ds rs) : Gath prog w hB A ce elt [⟨target, iter, ifs, 0⟩, ⟨target', iter', ifs', 0⟩] scope pos ρ ds rs := fun R I acc fp wr P T V s st W hT hwr hlive hfp hP hgo hR => by
  obtain ⟨tx, tp, rfl⟩ := htg
  have L : Lp wr fp V T := ⟨W.frame, hfp, hlive⟩
  have hFs : ∀ a ∈ ([acc :: wr] : List (List Addr)).flatten, a ∈ ([acc :: wr] : List (List Addr)).flatten ∨ Own ce a ∨ s.heap.get? a = none := fun a h => .inl h
  refine compLoop_any (W := fun Pq s => wpAny (model prog w) A (eval iter' ce) (fun x s₁ => wpAny (model prog w) A (pyIter x) (fun it s₂ => wpAny (model prog w) A (runOwn (.compStart (.ListComp elt [⟨.Name tx tp, iter, ifs, 0⟩, ⟨target', iter', ifs', 0⟩] scope pos) 1 it (.ref acc) ce) ce) (fun _ s' => Pq s')
      (notedBy (model prog w) A ce fun e s' => R (.error e) s') s₂) (notedBy (model prog w) A ce fun e s' => R (.error e) s') s₁) (notedBy (model prog w) A ce fun e s' => R (.error e) s') s)
    (CompInv w.params hB ce ρ acc wr V s T [] rs (fun i todo => Comp2 prog w hB A ce (.Name tx tp) ifs target' iter' ifs' elt ρ (ds.drop i) todo) ds.length)
    (turn_two0 elt (.Name tx tp) iter target' iter' ifs ifs' scope pos _ _ ce) (fun k Q s h => htl_inner hs k Q _ s h)
    (fun P P' s h hp => wpAny_mono h (fun _ _ h' => wpAny_mono h' (fun _ _ h'' => wpAny_mono h'' (fun _ s' h3 => hp s' h3) fun _ _ e => e) fun _ _ e => e) fun _ _ e => e) ?_ (ds.length + 1)
    ⟨V, 0, [], rs, st, ExtS.refl st.st.held, Nat.zero_le _, rfl, h, rfl, ⟨fun b hb => ⟨(hwr b hb).1, (hwr b hb).2.1, fun q => (hwr b hb).2.2 (List.mem_singleton.mp q)⟩, st.st.held, V.le_refl, hT⟩⟩
  intro k s' hinv
  cases hinv with
  | intro V' i done todo st' x' hi' hk hc' he t' =>
  subst hk he
  have hfm : ∀ b ∈ wr, ¬ Frm ce b := fun b hb => (t'.off b hb).2.1
  by_cases hlt : i < ds.length
  · refine W.item i s' _ _ hlt t'.here fun u h₁ tk₁ hPu hT₁ hk₁ => ?_
    refine (hP i u hlt hPu).elim fun d₁ hd => ?_
    have hc₁ := drop_of hd.1 ▸ hc'
    have st₃ := stm_iter (tk := tk₁) st' t'.off hk₁
    have x₃ := x'.iter hfm (fun _ => in_wr) hk₁ st₃.st.held
    have t₃ : Trk ce wr V (T (i + 1)) [[acc]] V' { s' with heap := h₁, toks := tk₁ } := ⟨t'.off, st₃.st.held, t'.le, hT₁⟩
    refine wpAny_pure ?_
    refine hc₁.elim fun {d' ds' rs₁ rs' β} he ha hfr htst hev hit hc1 hrest => ?_
    subst he
    refine ha _ ρ [[acc]] V' _ u _ _ st₃ (hd.2.mono t'.le) fun s₄ x₄ st₄ => ?_
    refine wpAny_mono (htst V' s₄ _ st₄.st) (fun ok s₅ ⟨hok, V₅, x₅⟩ => ?_) fun _ _ e => e
    subst hok
    rw [if_pos rfl]
    have st₅ := st₄.ext x₅
    refine wpAny_mono (hev V₅ s₅ _ st₅.st) (fun y s₆ ⟨V₆, x₆, r₆⟩ => ?_) fun _ _ e => e
    have st₆ := st₅.ext x₆
    refine hit V₆ s₆ y _ _ st₆.st.held r₆ fun I' fp' wr' P' T' V₇ s₇ y₇ W' hT' hwr' hlive' hfp' hP' hgo'' => ?_
    have st₇ := st₆.ext (y₇.toExt _)
    have x₄₆ := x₄.trans (fun _ h => .inl h) ((x₅.trans x₆).toS)
    have x₄₇ := x₄₆.trans (fun _ h => .inl h) ((y₇.toExt ce).toS)
    have t₆ := L.step t₃ x₄₆ fun _ h => .inl h
    have t₇ := L.step t₃ x₄₇ fun _ h => .inl h
    have t₇' : Trk ce wr V (T (i + 1)) [acc :: wr'] V₇ s₇ := ⟨fun b hb => ⟨(t₇.off b hb).1, (t₇.off b hb).2.1, fun q => (mem_accwr.mp q).elim (fun q => (t₇.off b hb).2.2 (List.mem_singleton.mpr q)) fun q => let ⟨o, ho⟩ := hlive (i + 1) _ t₆.here b hb; no (hwr' b q).2 ho⟩, t₇.held, t₇.le, t₇.here⟩
    have hwI : ∀ b ∈ wr', V₇ b = none ∧ ¬ Frm ce b ∧ b ≠ acc := fun b hb => ⟨(hwr' b hb).1, st₆.st.fresh (hwr' b hb).2, fun q => st₆.fresh (hwr' b hb).2 (List.mem_singleton.mpr q)⟩
    have hlen : done.length + rs₁.length ≤ 1000000 := by
      rw [List.length_append, List.length_append] at hz
      exact Nat.le_trans (Nat.add_le_add_left (Nat.le_add_right _ _) _) hz
    refine wpAny_runOwn (h := none) ?_
    have xa := x₃.trans hFs (extS_wr (F := []) x₄₆)
    have xb := xa.trans hFs ((y₇.toExt ce).toS)
    have fin : codeAny (model prog w) A (.compLoop (.ListComp elt [⟨.Name tx tp, iter, ifs, 0⟩, ⟨target', iter', ifs', 0⟩] scope pos) 1 (.ref I') (.ref acc) ce)
        (fun r s' => match r with
          | .ok f => ∃ m, m < ds.length + 1 - i ∧ CompInv w.params hB ce ρ acc wr V s T [] (done ++ (rs₁ ++ rs')) (fun i todo => Comp2 prog w hB A ce (.Name tx tp) ifs target' iter' ifs' elt ρ (ds.drop i) todo) ds.length m s'
          | .error e => cameBackBy (model prog w) A ce (notedBy (model prog w) A ce fun e s' => R (.error e) s') e s') s₇ := by
      refine comp1_loop (fun it acc => turn_two1 elt (.Name tx tp) iter target' iter' ifs ifs' scope pos it acc ce) (.inl htg') hc1 st₇ hlen W' hT' hwI hlive' hfp' hP' hgo'' fun V₈ s₈ x₈ st₈ => ?_
      have t₈ := L.step t₇' x₈ fun _ h => .inl h
      refine ⟨ds.length + 1 - (i + 1), loop_less hlt, V₈, i + 1, done ++ rs₁, rs', st₈.mono (fresh_le hfr), xb.trans (F' := [acc :: wr']) (fun a ha => ?_) x₈, hlt, rfl, hrest, by rw [List.append_assoc], ⟨fun b hb => ⟨(t₈.off b hb).1, (t₈.off b hb).2.1, fun q => (t₇.off b hb).2.2 q⟩, t₈.held, t₈.le, t₈.here⟩⟩
      rcases mem_accwr.mp ha with q | q
      · exact .inl (mem_accwr.mpr (.inl q))
      · exact xa.back (hwr' a q).2
    exact compStart_any (target := target') (iter := iter') (ifs := ifs') rfl fin (W'.self 0 _ _ _ hT' fin)
  · have he := (List.drop_of_length_le (Nat.not_lt.mp hlt) ▸ hc').isNil
    subst he
    refine W.done s' _ _ (Nat.le_antisymm hi' (Nat.not_lt.mp hlt) ▸ t'.here) fun h₁ tk₁ hk₁ => ?_
    have st₃ := stm_iter (tk := tk₁) st' t'.off hk₁
    exact hR V' _ (x'.iter hfm (fun _ => in_wr) hk₁ st₃.st.held) (by rw [List.append_nil]; exact st₃)
end
end Mine
namespace Mine

/-- the values of a dict of ints -/
inductive DVal : List (Str × Value) → List (Str × Int) → Prop
  | nil : DVal [] []
  | cons {x : Str} {i : Int} {t : Tok} {kv : List (Str × Value)} {kvs : List (Str × Int)} : DVal kv kvs → DVal ((x, .int i t) :: kv) ((x, i) :: kvs)
theorem DVal.keys : ∀ {kv : List (Str × Value)} {kvs : List (Str × Int)}, DVal kv kvs → kv.map (·.1) = kvs.map (·.1)
  | _, _, .nil => rfl
  | _, _, .cons h => by simp [DVal.keys h]
theorem DVal.length {kv : List (Str × Value)} {kvs : List (Str × Int)} (h : DVal kv kvs) : kv.length = kvs.length := by
  have := congrArg List.length h.keys; simpa using this

/-- the int under a key -/
noncomputable def dget (kvs : List (Str × Int)) (k : Str) : Option Int := (kvs.find? fun kv => kv.1 = k).map (·.2)
/-- stored under a key -/
noncomputable def dput (kvs : List (Str × Int)) (k : Str) (i : Int) : List (Str × Int) := match kvs with
  | [] => [(k, i)]
  | (x, j) :: r => if x = k then (k, i) :: r else (x, j) :: dput r k i

section
variable {prog : Program} {w : World}
theorem DEnt.bridge {es : List DictEntry} {kvs : List (Str × Int)} (d : DEnt w.params es kvs) : ∃ kv, Pairs (strKind prog w) es kv ∧ (∀ e ∈ es, ∃ k, (strKind prog w).is k e.key = true ∧ e.hash = (strKind prog w).hash k) ∧ DVal kv kvs := by
  induction d with
  | nil => exact ⟨[], .nil, (fun _ h => nomatch h), .nil⟩
  | @cons x t u i es kvs _ ih =>
    obtain ⟨kv, h1, h2, h3⟩ := ih
    refine ⟨(x, .int i u) :: kv, .cons (strKind_is prog w x t) rfl h1, fun e he => ?_, .cons h3⟩
    rcases List.mem_cons.mp he with rfl | he
    · exact ⟨x, strKind_is prog w x t, rfl⟩
    · exact h2 e he
theorem DEnt.dictAt {h : Heap} {a : Addr} {es : List DictEntry} {n : Nat} {kvs : List (Str × Int)} (e : h.get? a = some (dictOf es n)) (d : DEnt w.params es kvs) (hn : (kvs.map (·.1)).Nodup) : ∃ kv, h.DictAt (strKind prog w) a kv n ∧ DVal kv kvs := by
  obtain ⟨kv, h1, h2, h3⟩ := d.bridge (prog := prog)
  exact ⟨kv, ⟨_, es.toArray, e, ⟨rfl, rfl, rfl⟩, rfl, fun x hx => h2 x (by simpa using hx), by simpa using h1, by rw [h3.keys]; exact hn⟩, h3⟩
theorem DEnt.of_pairs {kv : List (Str × Value)} {kvs : List (Str × Int)} (hv : DVal kv kvs) : ∀ {es : List DictEntry}, Pairs (strKind prog w) es kv → (∀ e ∈ es, ∃ k, (strKind prog w).is k e.key = true ∧ e.hash = (strKind prog w).hash k) → DEnt w.params es kvs := by
  induction hv with
  | nil => intro es hp _; cases hp; exact .nil
  | @cons x i t kv kvs hv ih =>
    intro es hp hk
    cases hp with
    | @cons e _ es' _ h1 h2 hr =>
      obtain ⟨k, hk1, hk2⟩ := hk e (.head _)
      have : k = x := (strKind prog w).inj _ _ _ hk1 h1
      subst this
      obtain ⟨hash, key, val⟩ := e
      simp only at h2 hk2 hk1
      obtain ⟨t', rfl⟩ := Value.isStrOf_shape hk1
      subst h2 hk2
      exact .cons (ih hr fun e he => hk e (.tail _ he))
theorem dictOf_back {h : Heap} {a : Addr} {kv : List (Str × Value)} {kvs : List (Str × Int)} (d : h.DictOf (strKind prog w) a kv) (hv : DVal kv kvs) : ∃ es n, h.get? a = some (dictOf es n) ∧ DEnt w.params es kvs ∧ (kvs.map (·.1)).Nodup := by
  obtain ⟨o, es, ep, ho, ⟨h1, h2, h3⟩, hd, hk, hp, hn⟩ := d
  obtain ⟨c, dd, dt, sl⟩ := o
  simp only at h1 h2 h3 hd
  subst h1 h2 h3 hd
  refine ⟨es.toList, ep, by simpa using ho, DEnt.of_pairs hv hp (fun e he => hk e (by simpa using he)), by rw [← hv.keys]; exact hn⟩
theorem dictAt_back {h : Heap} {a : Addr} {kv : List (Str × Value)} {kvs : List (Str × Int)} {n : Nat} (d : h.DictAt (strKind prog w) a kv n) (hv : DVal kv kvs) : ∃ es, h.get? a = some (dictOf es n) ∧ DEnt w.params es kvs ∧ (kvs.map (·.1)).Nodup := by
  obtain ⟨o, es, ho, ⟨h1, h2, h3⟩, hd, hk, hp, hn⟩ := d
  obtain ⟨c, dd, dt, sl⟩ := o
  simp only at h1 h2 h3 hd
  subst h1 h2 h3 hd
  refine ⟨es.toList, by simpa using ho, DEnt.of_pairs hv hp (fun e he => hk e (by simpa using he)), by rw [← hv.keys]; exact hn⟩
theorem valueAt_dget {kv : List (Str × Value)} {kvs : List (Str × Int)} (h : DVal kv kvs) (k : Str) : (dget kvs k = none ∧ valueAt kv k = none) ∨ ∃ i t, dget kvs k = some i ∧ valueAt kv k = some (.int i t) := by
  induction h with
  | nil => exact .inl ⟨rfl, rfl⟩
  | @cons x i t kv kvs hr ih =>
    unfold dget valueAt
    by_cases hx : x = k
    · exact .inr ⟨i, t, by simp [List.find?_cons, hx], by simp [List.find?_cons, hx]⟩
    · unfold dget valueAt at ih
      simpa [List.find?_cons, hx] using ih
end

noncomputable def D.depth : D → Nat
  | .tup ds => depthL ds + 1
  | .lst ds => depthL ds + 1
  | .dct _ => 2
  | _ => 1
where depthL : List D → Nat
  | [] => 0
  | d :: ds => max (D.depth d) (depthL ds)

/-- a datum that can be compared -/
noncomputable def D.plain : D → Bool
  | .tup ds => plainL ds
  | .lst ds => plainL ds
  | .cmp _ => false
  | .rng _ => false
  | .typ _ => false
  | _ => true
where plainL : List D → Bool
  | [] => true
  | d :: ds => D.plain d && plainL ds

/-- two values are equal, here -/
noncomputable def EqOn (prog : Program) (w : World) (A : Around) (s : Shared) (v u : Value) : Prop := ∀ (E : Value → Shared → Prop) (Q : Bool → Shared → Prop), Q true s → wpAny (model prog w) A (eqBool v u) Q E s

section
open SeqAt MeetsSeq MeetsSeq3
open AutoSeq1 (wpAny_loadPart')
variable {prog : Program} {w : World}
theorem EqOn.of {A : Around} {s : Shared} {v u : Value} (h : EqAt A s v u true) : EqOn prog w A s v u := fun E Q q => h prog w E Q q
theorem EqOn.refs {A : Around} {s : Shared} {l b : Addr} (hne : l ≠ b) (h : ∀ E (Q : Value → Shared → Prop), Q (.bool true) s → wpAny (model prog w) A (richCompare .Eq (.ref l) (.ref b)) Q E s) : EqOn prog w A s (.ref l) (.ref b) := fun E Q hq => by
  unfold eqBool
  refine wpAny_holding ?_
  refine wpAny_ite_split (fun hab => absurd (by have := eq_of_beq hab; injection this) hne) (fun _ => ?_)
  exact wpAny_bind (h E _ (wpAny_truthy_bool hq))

/-- the loop over two lists whose items are all equal -/
theorem eqLoop_same {A : Around} {R : Result → Shared → Prop} {s : Shared} {l b : Addr} {vs us : List Value} {n n2 : Nat} (code : Nat) (r : Bool) (hcode : (code = 2 ∧ r = true) ∨ (code = 3 ∧ r = false)) (hl : s.heap.get? l = some (lstObj vs n)) (hb : s.heap.get? b = some (lstObj us n2)) (hz : vs.length = us.length)
    (he : ∀ j (h1 : j < vs.length) (h2 : j < us.length), EqOn prog w A.in1 s vs[j] us[j]) (hR : R (.ok (.ret (.bool r))) s) :
    ∀ (k i : Nat), vs.length - i = k → codeAny (model prog w) A (.builtin "list.__eq__.loop" ⟨[.ref l, .ref b, rawInt i, rawInt code], []⟩) R s := by
  intro k
  induction k with
  | zero =>
    intro i hk
    refine codeAny_builtin entry_eq_loop ?_
    rw [Around.under_plainId plain_eq_loop _]
    obtain ⟨hp, g, d, tk, os⟩ := s
    have hi1 : vs.toArray[((i : Nat) : Int).toNat]? = none := by simp; (first | lia | omega)
    have hi2 : us.toArray[((i : Nat) : Int).toNat]? = none := by simp; (first | lia | omega)
    rcases hcode with ⟨rfl, rfl⟩ | ⟨rfl, rfl⟩
    all_goals
      wp_walk using wpAny_loadPart' hl, wpAny_loadPart' hb
      rw [hi1, hi2]
      wp_walk using wpAny_loadPart' hl, wpAny_loadPart' hb
      first
      | (show R (.ok (.ret (.bool (vs.toArray.size == us.toArray.size)))) _; simpa [hz] using hR)
      | (show R (.ok (.ret (.bool (vs.toArray.size != us.toArray.size)))) _; simpa [hz] using hR)
  | succ k ih =>
    intro i hk
    refine codeAny_builtin entry_eq_loop ?_
    rw [Around.under_plainId plain_eq_loop _]
    have ih' := ih (i + 1) (by (first | lia | omega))
    obtain ⟨hp, g, d, tk, os⟩ := s
    have hlt : i < vs.length := by (first | lia | omega)
    have hlt2 : i < us.length := by (first | lia | omega)
    have hi1 : vs.toArray[((i : Nat) : Int).toNat]? = some vs[i] := by simp [hlt]
    have hi2 : us.toArray[((i : Nat) : Int).toNat]? = some us[i] := by simp [hlt2]
    have hc : ((i : Int) + 1) = ((i + 1 : Nat) : Int) := by push_cast; rfl
    rcases hcode with ⟨rfl, rfl⟩ | ⟨rfl, rfl⟩
    all_goals
      wp_walk using wpAny_loadPart' hl, wpAny_loadPart' hb
      rw [hi1, hi2]
      refine wpAny_bind (he i hlt hlt2 _ _ ?_)
      wp_walk
      rw [hc]
      exact ⟨plainId_quiet plain_eq_loop _, ih'⟩

theorem listEq_same {A : Around} {E : Value → Shared → Prop} {s : Shared} {l b : Addr} {vs us : List Value} {n n2 : Nat} {Q : Value → Shared → Prop} (hl : s.heap.get? l = some (lstObj vs n)) (hb : s.heap.get? b = some (lstObj us n2)) (hz : vs.length = us.length) (hu : A.units < cLine)
    (he : ∀ j (h1 : j < vs.length) (h2 : j < us.length), EqOn prog w A.in1 s vs[j] us[j]) (hQ : Q (.bool true) s) : wpAny (model prog w) A (richCompare .Eq (.ref l) (.ref b)) Q E s := by
  refine wpAny_richCompare_same_room (op := .Eq) (T := "list") ⟨_, hl, rfl⟩ ⟨_, hb, rfl⟩ F.slot_list_eq ?_ hu
  refine wpAny_call (codeAny_call_builtin F.slot_list_eq.plain F.entry_list_eq (F.slot_list_eq.check _ _ _ _ _ _ _ _ (⟨_, hl, rfl⟩ : s.TypeIs (.ref l) "list") (F.args_list_eq_2 _ _) ?_))
  have loop := eqLoop_same (prog := prog) (w := w) (A := A) (R := wants (fun v s' => v ≠ .notImplemented ∧ Q v s') E) 2 true (.inl ⟨rfl, rfl⟩) hl hb hz he ⟨(fun x => nomatch x), hQ⟩ _ 0 rfl
  have f3 := AutoSeq1.sub_list_list
  have hne : ¬ (vs.toArray.size != us.toArray.size) = true := by simp [hz]
  obtain ⟨hp, g, d, tk, os⟩ := s
  wp_walk using wpAny_loadPart' hl, wpAny_loadPart' hb
  exact ⟨plainId_quiet plain_eq_loop _, loop⟩
theorem listNe_same {A : Around} {E : Value → Shared → Prop} {s : Shared} {l b : Addr} {vs us : List Value} {n n2 : Nat} {Q : Value → Shared → Prop} (hl : s.heap.get? l = some (lstObj vs n)) (hb : s.heap.get? b = some (lstObj us n2)) (hz : vs.length = us.length) (hu : A.units < cLine)
    (he : ∀ j (h1 : j < vs.length) (h2 : j < us.length), EqOn prog w A.in1 s vs[j] us[j]) (hQ : Q (.bool false) s) : wpAny (model prog w) A (richCompare .NotEq (.ref l) (.ref b)) Q E s := by
  refine wpAny_richCompare_same_room (op := .NotEq) (T := "list") ⟨_, hl, rfl⟩ ⟨_, hb, rfl⟩ F.slot_list_ne ?_ hu
  refine wpAny_call (codeAny_call_builtin F.slot_list_ne.plain F.entry_list_ne (F.slot_list_ne.check _ _ _ _ _ _ _ _ (⟨_, hl, rfl⟩ : s.TypeIs (.ref l) "list") (F.args_list_ne_2 _ _) ?_))
  have loop := eqLoop_same (prog := prog) (w := w) (A := A) (R := wants (fun v s' => v ≠ .notImplemented ∧ Q v s') E) 3 false (.inr ⟨rfl, rfl⟩) hl hb hz he ⟨(fun x => nomatch x), hQ⟩ _ 0 rfl
  have f3 := AutoSeq1.sub_list_list
  have hne : ¬ (vs.toArray.size != us.toArray.size) = true := by simp [hz]
  obtain ⟨hp, g, d, tk, os⟩ := s
  wp_walk using wpAny_loadPart' hl, wpAny_loadPart' hb
  exact ⟨plainId_quiet plain_eq_loop _, loop⟩
theorem tupEq_same {A : Around} {E : Value → Shared → Prop} {s : Shared} {l b : Addr} {vs us : List Value} {n n2 : Nat} {Q : Value → Shared → Prop} (hl : s.heap.get? l = some (tupObj vs n)) (hb : s.heap.get? b = some (tupObj us n2)) (hz : vs.length = us.length) (hu : A.units < cLine)
    (he : ∀ j (h1 : j < vs.length) (h2 : j < us.length), EqOn prog w A.in1 s vs[j] us[j]) (hQ : Q (.bool true) s) : wpAny (model prog w) A (richCompare .Eq (.ref l) (.ref b)) Q E s := by
  refine wpAny_richCompare_same_room (op := .Eq) (T := "tuple") ⟨_, hl, rfl⟩ ⟨_, hb, rfl⟩ F.slot_tuple_eq ?_ hu
  refine wpAny_call_entry F.slot_tuple_eq (⟨_, hl, rfl⟩ : s.TypeIs (.ref l) "tuple") F.entry_tuple_eq ?_ (F.args_tuple_eq_2 _ _)
  have f2 := AutoSeq1.sub_tuple_tuple
  obtain ⟨hp, g, d, tk, os⟩ := s
  wp_walk using wpAny_loadPart' hl, wpAny_loadPart' hb, wpAny_forIn_list _ (fun rest b s' => b.1 = none ∧ s' = ⟨hp, g, d, tk, os⟩ ∧ ∃ i, rest = (vs.zip us).drop i) _
  case turn =>
    rintro ⟨y, x⟩ rest b s' ⟨hb', rfl, i, hz'⟩
    have hlt : i < (vs.zip us).length := by
      rcases Nat.lt_or_ge i (vs.zip us).length with h' | h'
      · exact h'
      · rw [List.drop_of_length_le h'] at hz'; cases hz'
    have h1 : i < vs.length := by simp at hlt; (first | lia | omega)
    have h2 : i < us.length := by (first | lia | omega)
    rw [List.drop_eq_getElem_cons hlt] at hz'
    injection hz' with hyx hrest
    have hy : y = vs[i] := by have := congrArg Prod.fst hyx; simpa using this
    have hx : x = us[i] := by have := congrArg Prod.snd hyx; simpa using this
    subst hy hx
    refine wpAny_bind (he i h1 h2 _ _ ?_)
    wp_walk
    exact ⟨rfl, rfl, i + 1, hrest⟩
  case fin =>
    rintro ⟨b1, b2⟩ s' ⟨hb', rfl, i, hz'⟩
    simp only at hb'
    subst hb'
    wp_walk
    exact ⟨_, rfl, (fun x => nomatch x), by simpa [Builtin.Tuple.tupleCompareSizes, hz] using hQ⟩
  case h => exact ⟨rfl, rfl, 0, by simp⟩

theorem RepAll.eqOn {P : Params} {V : Vw} {s : Shared} {n : Nat} {A : Around} (IH : ∀ d v u, D.plain d = true → D.depth d ≤ n → Rep P V v d → Rep P V u d → EqOn prog w A s v u) : ∀ {ds : List D} {vs us : List Value}, D.plain.plainL ds = true → D.depth.depthL ds ≤ n → RepAll P V vs ds → RepAll P V us ds → ∀ j (h1 : j < vs.length) (h2 : j < us.length), EqOn prog w A s vs[j] us[j] := by
  intro ds
  induction ds with
  | nil =>
    intro vs us _ _ r1 _ j h1
    cases r1 using RepAll.nilE
    exact absurd h1 (Nat.not_lt_zero _)
  | cons d ds ih =>
    intro vs us hp hd r1 r2 j h1 h2
    have hp' := Bool.and_eq_true_iff.mp hp
    have hd' := Nat.max_le.mp hd
    cases r1 using RepAll.consE with
    | cons e1 r1 =>
      cases r2 using RepAll.consE with
      | cons e2 r2 =>
        cases j with
        | zero => exact IH d _ _ hp'.1 hd'.1 e1 e2
        | succ j => exact ih hp'.2 hd'.2 r1 r2 j (Nat.lt_of_succ_lt_succ h1) (Nat.lt_of_succ_lt_succ h2)

theorem keqHits_same {A : Around} {s : Shared} {kb₀ : List (Str × Value)} {ka : List (Str × Value)} {kvs : List (Str × Int)} (h1 : DVal ka kvs) : ∀ {kb : List (Str × Value)}, DVal kb kvs → (∀ x v, (x, v) ∈ kb → valueAt kb₀ x = some v) → KeqHits A s kb₀ ka true := by
  induction h1 with
  | nil => intro kb h2 _; exact .nil
  | @cons x i t ka kvs h1 ih =>
    intro kb h2 hv
    cases h2 with
    | @cons _ _ u kb _ h2 =>
      have := KeqHits.hit (A := A) (s := s) (kb := kb₀) (k := x) (v := .int i t) (y := .int i u) (e := true) (b := true) (hv x _ (.head _)) (fun prog w E Q hq => wpAny_eqBool_int (by simpa using hq)) (ih h2 fun x v h => hv x v (.tail _ h))
      simpa using this
theorem valueAt_mem {kb : List (Str × Value)} (hn : (kb.map (·.1)).Nodup) : ∀ x v, (x, v) ∈ kb → valueAt kb x = some v := by
  induction kb with
  | nil => intro x v h; exact nomatch h
  | cons p r ih =>
    obtain ⟨y, u⟩ := p
    simp only [List.map_cons, List.nodup_cons] at hn
    intro x v h
    unfold valueAt
    rcases List.mem_cons.mp h with e | h
    · cases e; simp
    · have : y ≠ x := fun q => hn.1 (by rw [q]; exact List.mem_map.mpr ⟨_, h, rfl⟩)
      have ih' := ih hn.2 x v h
      unfold valueAt at ih'
      simpa [List.find?_cons, this] using ih'

theorem eqOn_rep {V : Vw} {s : Shared} (hV : Held V s) : ∀ (n : Nat) (A : Around) (d : D) (v u : Value), D.plain d = true → D.depth d ≤ n → A.units + n < cLine → Rep w.params V v d → Rep w.params V u d → EqOn prog w A s v u := by
  intro n
  induction n with
  | zero => intro A d v u hp hd; cases d <;> simp [D.depth] at hd
  | succ n ih =>
    intro A d v u hp hd hu r1 r2
    have hu1 : A.in1.units + n < cLine := by show A.units + 1 + n < cLine; (first | lia | omega)
    have hu0 : A.units < cLine := by (first | lia | omega)
    cases d with
    | none => cases r1; cases r2; exact EqOn.of (EqAt.same _)
    | bool b => cases r1 using Rep.boolE; cases r2 using Rep.boolE; exact EqOn.of (EqAt.same _)
    | int i => cases r1 using Rep.intE; cases r2 using Rep.intE; exact fun E Q hq => wpAny_eqBool_int (by simpa using hq)
    | str x => cases r1 using Rep.strE; cases r2 using Rep.strE; exact fun E Q hq => wpAny_eqBool_str (by simpa using hq)
    | tup ds =>
      refine Rep.tupE (fun {a vs k} e r => ?_) r1
      refine Rep.tupE (fun {b us j} e' r' => ?_) r2
      by_cases hab : a = b
      · subst hab; exact EqOn.of (EqAt.same _)
      · exact EqOn.refs hab fun E Q hq => tupEq_same (hV _ _ e) (hV _ _ e') (by rw [r.length, r'.length]) hu0 (RepAll.eqOn (fun d v u h1 h2 h3 h4 => ih A.in1 d v u h1 h2 hu1 h3 h4) hp (Nat.le_of_succ_le_succ hd) r r') hq
    | lst ds =>
      refine Rep.lstE (fun {a vs k} e r => ?_) r1
      refine Rep.lstE (fun {b us j} e' r' => ?_) r2
      by_cases hab : a = b
      · subst hab; exact EqOn.of (EqAt.same _)
      · exact EqOn.refs hab fun E Q hq => listEq_same (hV _ _ e) (hV _ _ e') (by rw [r.length, r'.length]) hu0 (RepAll.eqOn (fun d v u h1 h2 h3 h4 => ih A.in1 d v u h1 h2 hu1 h3 h4) hp (Nat.le_of_succ_le_succ hd) r r') hq
    | dct kvs =>
      refine Rep.dctE (fun {a es k} z e de hn => ?_) r1
      refine Rep.dctE (fun {b es' j} z' e' de' hn' => ?_) r2
      by_cases hab : a = b
      · subst hab; exact EqOn.of (EqAt.same _)
      · refine EqOn.refs hab fun E Q hq => ?_
        obtain ⟨ka, ha, va⟩ := de.dictAt (prog := prog) (hV _ _ e) hn
        obtain ⟨kb, hb, vb⟩ := de'.dictAt (prog := prog) (hV _ _ e') hn'
        refine keq_eq (A := A) z z' ha.dictOf hb.dictOf hu0 (fun _ => keqHits_same va vb (valueAt_mem (by rw [vb.keys]; exact hn'))) ?_
        simpa [va.length, vb.length] using hq
    | cmp sel => cases hp
    | rng k => cases hp
    | typ k => cases hp
end

section
variable {prog : Program} {w : World} {hB : Heap} {A : Around}
/-- equal data are equal -/
theorem op_eq_lst {ds : List D} {n : Nat} (hR : Room n A) (hp : D.plain.plainL ds = true) (hd : D.depth.depthL ds ≤ 20) : Op2 prog w hB A (compareOp .Eq) (.lst ds) (.lst ds) (.bool true) := fun V s v₁ v₂ E _ h r₁ r₂ => by
  refine Rep.lstE (fun e r => ?_) r₁
  refine Rep.lstE (fun e' r' => ?_) r₂
  have := hR.units
  exact listEq_same (h _ _ e) (h _ _ e') (by rw [r.length, r'.length]) (by (first | lia | omega)) (RepAll.eqOn (fun d v u h1 h2 h3 h4 => eqOn_rep h 20 A.in1 d v u h1 h2 (by show A.units + 1 + 20 < cLine; (first | lia | omega)) h3 h4) hp hd r r') ⟨V, ExtF.refl h, .bool _⟩
theorem op_ne_lst {ds : List D} {n : Nat} (hR : Room n A) (hp : D.plain.plainL ds = true) (hd : D.depth.depthL ds ≤ 20) : Op2 prog w hB A (compareOp .NotEq) (.lst ds) (.lst ds) (.bool false) := fun V s v₁ v₂ E _ h r₁ r₂ => by
  refine Rep.lstE (fun e r => ?_) r₁
  refine Rep.lstE (fun e' r' => ?_) r₂
  have := hR.units
  exact listNe_same (h _ _ e) (h _ _ e') (by rw [r.length, r'.length]) (by (first | lia | omega)) (RepAll.eqOn (fun d v u h1 h2 h3 h4 => eqOn_rep h 20 A.in1 d v u h1 h2 (by show A.units + 1 + 20 < cLine; (first | lia | omega)) h3 h4) hp hd r r') ⟨V, ExtF.refl h, .bool _⟩
/-- not the empty list -/
theorem op_ne_nil {d : D} {ds : List D} {n : Nat} (hR : Room n A) : Op2 prog w hB A (compareOp .NotEq) (.lst (d :: ds)) (.lst []) (.bool true) := fun V s v₁ v₂ E _ h r₁ r₂ => by
  refine Rep.lstE (fun e r => ?_) r₁
  refine Rep.lstE (fun e' r' => ?_) r₂
  have := hR.units
  refine SeqAt.RcNeAt.lists_lengths (isList_of h e) (isList_of h e') ?_ (by (first | lia | omega)) prog w E _ ⟨V, ExtF.refl h, .bool _⟩
  rw [List.size_toArray, List.size_toArray, r.length, r'.length]; simp
end
end Mine
namespace Mine

noncomputable def intsD (ns : List Int) : List D := ns.map D.int
noncomputable def strsD (xs : List Str) : List D := xs.map D.str

section
variable {P : Params} {V : Vw}
theorem RepAll.ints : ∀ {ns : List Int} {vs : List Value}, RepAll P V vs (intsD ns) → IntsAre vs ns
  | [], _, h => by cases (show RepAll P V _ [] from h) using RepAll.nilE; exact .nil
  | n :: ns, _, h => by
    cases (show RepAll P V _ (D.int n :: intsD ns) from h) using RepAll.consE with
    | cons e r => cases e using Rep.intE with | int t => exact .cons n t (RepAll.ints r)
theorem RepAll.of_ints : ∀ {vs : List Value} {ns : List Int}, IntsAre vs ns → RepAll P V vs (intsD ns)
  | _, _, .nil => .nil
  | _, _, .cons n t r => .cons (.int n t) (RepAll.of_ints r)
end

section
variable {prog : Program} {w : World} {hB : Heap} {A : Around} {env : Env} {ρ : Nm}

theorem Ev.typ {e : Expr} {n : String} (h : EvV prog w hB A env e (.type n)) : Ev prog w hB A env ρ e (.typ n) := fun V s E st => h V s ρ E _ st ⟨V, Ext.refl st.held, .typ n⟩

theorem fn_len_lst {n : Nat} {ds : List D} (hz : ds.length < 2 ^ 62) : Fn prog w hB n (.builtin "len") [.lst ds] (.int ds.length) := fun A V s vs E hR hlow hb hV r => by
  refine RepAll.consE (fun r₁ r₂ => ?_) r
  (first | refine RepAll.nilE ?_ r₂ | refine Rep.intE (fun _ => ?_) r₂ | refine Rep.strE (fun _ => ?_) r₂ | refine Rep.boolE ?_ r₂ | cases r₂)
  refine Rep.lstE (fun {a vs k} e rr => ?_) r₁
  refine call_len_list (isList_of hV e) (by rw [List.size_toArray, rr.length]; (first | lia | omega)) ?_
  rw [List.size_toArray, rr.length]
  exact ⟨V, ExtF.toks hV _, .int _ _⟩
theorem fn_len_dct {n : Nat} {kvs : List (Str × Int)} (hz : kvs.length < 2 ^ 62) : Fn prog w hB n (.builtin "len") [.dct kvs] (.int kvs.length) := fun A V s vs E hR hlow hb hV r => by
  refine RepAll.consE (fun r₁ r₂ => ?_) r
  (first | refine RepAll.nilE ?_ r₂ | refine Rep.intE (fun _ => ?_) r₂ | refine Rep.strE (fun _ => ?_) r₂ | refine Rep.boolE ?_ r₂ | cases r₂)
  refine Rep.dctE (fun {a es k} z e de hn => ?_) r₁
  obtain ⟨kv, hd, hv⟩ := de.dictAt (prog := prog) (hV _ _ e) hn
  refine call_len_dict z hd.dictOf (by rw [hv.length]; (first | lia | omega)) ?_
  rw [hv.length]
  exact ⟨V, ExtF.toks hV _, .int _ _⟩
theorem fn_range {n k : Nat} : Fn prog w hB n (.type "range") [.int k] (.rng k) := fun A V s vs E hR hlow hb hV r => by
  refine RepAll.consE (fun r₁ r₂ => ?_) r
  (first | refine RepAll.nilE ?_ r₂ | refine Rep.intE (fun _ => ?_) r₂ | refine Rep.strE (fun _ => ?_) r₂ | refine Rep.boolE ?_ r₂ | cases r₂)
  refine Rep.intE (fun t => ?_) r₁
  refine call_range_1 ⟨V.put s.heap.objs.size { cls := .type "range", data := .fields #[.int 0 s.toks, .int k t, .int 1 (s.toks + 1)] }, ExtF.alloc hV _ rfl _, .rng (Vw.put_self ..)⟩
theorem fn_sum {n : Nat} {ns : List Int} : Fn prog w hB n (.builtin "sum") [.lst (intsD ns)] (.int ns.sum) := fun A V s vs E hR hlow hb hV r => by
  refine RepAll.consE (fun r₁ r₂ => ?_) r
  (first | refine RepAll.nilE ?_ r₂ | refine Rep.intE (fun _ => ?_) r₂ | refine Rep.strE (fun _ => ?_) r₂ | refine Rep.boolE ?_ r₂ | cases r₂)
  refine Rep.lstE (fun {a vs k} e rr => ?_) r₁
  have hi := rr.ints
  obtain ⟨xs, hx⟩ := hi.allInts.items
  have hl' : s.heap.IsList a (intItems xs) := hx ▸ isList_of hV e
  refine sum_intListG hR.handled hl' fun h' tk t' hk => ?_
  have e1 : ns = xs.toList.map (·.1) := by
    rw [← nums_intItems, ← hx]
    exact (show numsOf vs.toArray.toList = ns from hi.numsOf).symm
  have e2 : preSum (numAt xs) xs.size = ns.sum := by
    rw [preSum_eq, List.take_of_length_le (by simp), e1]
  rw [e2]
  exact ⟨V, ExtF.of_keep hV hk, .int _ _⟩
theorem fn_max2 {n : Nat} {a b : Int} : Fn prog w hB n (.builtin "max") [.int a, .int b] (.int (if b > a then b else a)) := fun A V s vs E hR hlow hb hV r => by
  refine RepAll.consE (fun r₁ r₂ => ?_) r
  refine RepAll.consE (fun r₂ r₃ => ?_) r₂
  (first | refine RepAll.nilE ?_ r₃ | refine Rep.intE (fun _ => ?_) r₃ | refine Rep.strE (fun _ => ?_) r₃ | refine Rep.boolE ?_ r₃ | cases r₃); (first | refine RepAll.nilE ?_ r₁ | refine Rep.intE (fun _ => ?_) r₁ | refine Rep.strE (fun _ => ?_) r₁ | refine Rep.boolE ?_ r₁ | cases r₁); (first | refine RepAll.nilE ?_ r₂ | refine Rep.intE (fun _ => ?_) r₂ | refine Rep.strE (fun _ => ?_) r₂ | refine Rep.boolE ?_ r₂ | cases r₂)
  refine max_two_ints hR.handled fun h' tk hk => ⟨V, ExtF.of_keep hV hk, ?_⟩
  split
  · exact .int _ _
  · exact .int _ _
theorem fn_max {n : Nat} {ns : List Int} {M : Int} (hM : M ∈ ns) (hle : ∀ a ∈ ns, a ≤ M) : Fn prog w hB n (.builtin "max") [.lst (intsD ns)] (.int M) := fun A V s vs E hR hlow hb hV r => by
  refine RepAll.consE (fun r₁ r₂ => ?_) r
  (first | refine RepAll.nilE ?_ r₂ | refine Rep.intE (fun _ => ?_) r₂ | refine Rep.strE (fun _ => ?_) r₂ | refine Rep.boolE ?_ r₂ | cases r₂)
  refine Rep.lstE (fun {a vs k} e rr => ?_) r₁
  have hi := rr.ints
  obtain ⟨xs, hx⟩ := hi.allInts.items
  have hl' : s.heap.IsList a (intItems xs) := hx ▸ isList_of hV e
  have e1 : ns = xs.toList.map (·.1) := by
    rw [← nums_intItems, ← hx]
    exact (show numsOf vs.toArray.toList = ns from hi.numsOf).symm
  have hsz : 0 < xs.size := by
    have : ns.length = xs.size := by rw [e1]; simp
    rw [← this]; exact List.length_pos_of_mem hM
  refine max_intList hR.handled hl' hsz fun v h' tk hv hk => ?_
  obtain ⟨t, rfl⟩ := intItems_at hv
  obtain ⟨h1, h2⟩ := argBest_gt (numAt xs) (xs.size - 1)
  have hmem : numAt xs (argBest (fun i j => decide (numAt xs i > numAt xs j)) (xs.size - 1)) ∈ ns := by
    rw [numAt_eq, e1]; exact getD_mem (by rw [List.length_map, Array.length_toList]; (first | lia | omega))
  obtain ⟨j, hj, ej⟩ := mem_getD hM
  have hMle : M ≤ numAt xs (argBest (fun i j => decide (numAt xs i > numAt xs j)) (xs.size - 1)) := by
    have := h2 j (by rw [e1, List.length_map, Array.length_toList] at hj; (first | lia | omega))
    rw [numAt_eq, ← e1, ej] at this
    exact this
  have : numAt xs (argBest (fun i j => decide (numAt xs i > numAt xs j)) (xs.size - 1)) = M := Int.le_antisymm (hle _ hmem) hMle
  rw [this]
  exact ⟨V, ExtF.of_keep hV hk, .int _ _⟩
theorem fn_min {n : Nat} {ns : List Int} {M : Int} (hM : M ∈ ns) (hle : ∀ a ∈ ns, M ≤ a) : Fn prog w hB n (.builtin "min") [.lst (intsD ns)] (.int M) := fun A V s vs E hR hlow hb hV r => by
  refine RepAll.consE (fun r₁ r₂ => ?_) r
  (first | refine RepAll.nilE ?_ r₂ | refine Rep.intE (fun _ => ?_) r₂ | refine Rep.strE (fun _ => ?_) r₂ | refine Rep.boolE ?_ r₂ | cases r₂)
  refine Rep.lstE (fun {a vs k} e rr => ?_) r₁
  have hi := rr.ints
  obtain ⟨xs, hx⟩ := hi.allInts.items
  have hl' : s.heap.IsList a (intItems xs) := hx ▸ isList_of hV e
  have e1 : ns = xs.toList.map (·.1) := by
    rw [← nums_intItems, ← hx]
    exact (show numsOf vs.toArray.toList = ns from hi.numsOf).symm
  have hsz : 0 < xs.size := by
    have : ns.length = xs.size := by rw [e1]; simp
    rw [← this]; exact List.length_pos_of_mem hM
  refine min_intList hR.handled hl' hsz fun v h' tk hv hk => ?_
  obtain ⟨t, rfl⟩ := intItems_at hv
  obtain ⟨h1, h2⟩ := argBest_lt (numAt xs) (xs.size - 1)
  have hmem : numAt xs (argBest (fun i j => decide (numAt xs i < numAt xs j)) (xs.size - 1)) ∈ ns := by
    rw [numAt_eq, e1]; exact getD_mem (by rw [List.length_map, Array.length_toList]; (first | lia | omega))
  obtain ⟨j, hj, ej⟩ := mem_getD hM
  have hMle : numAt xs (argBest (fun i j => decide (numAt xs i < numAt xs j)) (xs.size - 1)) ≤ M := by
    have := h2 j (by rw [e1, List.length_map, Array.length_toList] at hj; (first | lia | omega))
    rw [numAt_eq, numAt_eq, ← e1, ej] at this
    rw [numAt_eq]; rw [← e1]; exact this
  have : numAt xs (argBest (fun i j => decide (numAt xs i < numAt xs j)) (xs.size - 1)) = M := Int.le_antisymm hMle (hle _ hmem)
  rw [this]
  exact ⟨V, ExtF.of_keep hV hk, .int _ _⟩

theorem dval_keys_get {kv : List (Str × Value)} {kvs : List (Str × Int)} (h : DVal kv kvs) {i : Nat} {k : Str} {x : Value} (e : kv[i]? = some (k, x)) : (kvs.map (·.1))[i]? = some k := by
  rw [← h.keys]; simp [e]
/-- list(d) -/
theorem fn_list_dct {n : Nat} {kvs : List (Str × Int)} (hz : kvs.length < 1000000) : Fn prog w hB n (.type "list") [.dct kvs] (.lst (strsD (kvs.map (·.1)))) := fun A V s vs E hR hlow hb hV r => by
  refine RepAll.consE (fun r₁ r₂ => ?_) r
  (first | refine RepAll.nilE ?_ r₂ | refine Rep.intE (fun _ => ?_) r₂ | refine Rep.strE (fun _ => ?_) r₂ | refine Rep.boolE ?_ r₂ | cases r₂)
  refine Rep.dctE (fun {a es k} z e de hn => ?_) r₁
  obtain ⟨kv, hd, hv⟩ := de.dictAt (prog := prog) (hV _ _ e) hn
  refine kdl_call (kdl_dict (knd := PySem.strKind prog w) (ep := k) z) hR.handled hd (by rw [hv.length, sizeLine_eq]; (first | lia | omega)) fun h' tk acc' c' hk ho hacc => ?_
  have ho' : h'.get? s.heap.objs.size = some (lstObj acc'.toList c') := by simpa using ho
  refine ⟨_, ExtF.of_keep1 hV hk (get_size_none _ (Nat.le_refl _)) ho', .lst (Vw.put_self ..) ?_⟩
  -- the items are the keys
  have hlen : acc'.toList.length = (kvs.map (·.1)).length := by rw [Array.length_toList, hacc.1, hv.length]; simp
  have hget : ∀ (j : Nat) (v : Value), acc'.toList[j]? = some v → ∃ x t, (kvs.map (·.1))[j]? = some x ∧ v = .str x t := fun j v hj => by
    obtain ⟨x, y, h1, h2⟩ := hacc.2 j v (by rw [← Array.getElem?_toList]; exact hj)
    obtain ⟨t, rfl⟩ := Value.isStrOf_shape h2
    exact ⟨x, t, dval_keys_get hv h1, rfl⟩
  have go : ∀ (us : List Value) (xs : List Str), us.length = xs.length → (∀ (j : Nat) (v : Value), us[j]? = some v → ∃ x t, xs[j]? = some x ∧ v = .str x t) → ∀ V', RepAll w.params V' us (strsD xs) := by
    intro us
    induction us with
    | nil => intro xs h1 h2 V'; cases xs with
             | nil => exact .nil
             | cons => simp at h1
    | cons u us ih =>
      intro xs h1 h2 V'
      cases xs with
      | nil => simp at h1
      | cons x xs =>
        obtain ⟨y, t, hy, rfl⟩ := h2 0 u rfl
        simp at hy
        subst hy
        exact .cons (.str _ _) (ih xs (by simpa using h1) (fun j v hj => h2 (j + 1) v (by simpa using hj)) V')
  exact go _ _ hlen hget _
theorem fn_isi_tuple {n : Nat} {i : Int} : Fn prog w hB n (.builtin "isinstance") [.int i, .typ "tuple"] (.bool false) := fun A V s vs E hR hlow hb hV r => by
  refine RepAll.consE (fun r₁ r₂ => ?_) r
  refine RepAll.consE (fun r₂ r₃ => ?_) r₂
  (first | refine RepAll.nilE ?_ r₃ | refine Rep.intE (fun _ => ?_) r₃ | refine Rep.strE (fun _ => ?_) r₃ | refine Rep.boolE ?_ r₃ | cases r₃); (first | refine RepAll.nilE ?_ r₁ | refine Rep.intE (fun _ => ?_) r₁ | refine Rep.strE (fun _ => ?_) r₁ | refine Rep.boolE ?_ r₁ | cases r₁); (first | refine RepAll.nilE ?_ r₂ | refine Rep.intE (fun _ => ?_) r₂ | refine Rep.strE (fun _ => ?_) r₂ | refine Rep.boolE ?_ r₂ | cases r₂)
  exact IsiPair.int_tuple ⟨V, ExtF.toks hV _, .bool _⟩

/-- lists one behind the other -/
theorem op_cat {ds es : List D} (hz : ds.length + es.length ≤ 1000000) : Op2 prog w hB A (binaryOp .Add) (.lst ds) (.lst es) (.lst (ds ++ es)) := fun V s v₁ v₂ E _ h r₁ r₂ => by
  refine Rep.lstE (fun {a vs k} e r => ?_) r₁
  refine Rep.lstE (fun {b us j} e' r' => ?_) r₂
  refine P.add_list (h _ _ e) (h _ _ e') ?_ (by rw [List.size_toArray, List.size_toArray, r.length, r'.length, sizeLine_eq]; (first | lia | omega))
  have q : vs.toArray ++ us.toArray = (vs ++ us).toArray := by simp
  rw [q]
  exact ⟨V.put s.heap.objs.size (lstObj (vs ++ us) 0), ExtF.alloc h (lstObj (vs ++ us) 0) rfl s.toks, .lst (Vw.put_self ..) ((r.append r').mono (Vw.le_put (Held.fresh h (Nat.le_refl _))))⟩
end
end Mine
namespace Mine

open Classical in
/-- some objects more are seen -/
noncomputable def Vw.seeL (V : Vw) (h : Heap) (l : List Addr) : Vw := fun b => if b ∈ l then h.get? b else V b
open Classical in
/-- some objects are no longer seen -/
noncomputable def Vw.hide (V : Vw) (l : List Addr) : Vw := fun b => if b ∈ l then none else V b
theorem Vw.seeL_in {V : Vw} {h : Heap} {l : List Addr} {b : Addr} (hb : b ∈ l) : V.seeL h l b = h.get? b := by simp [Vw.seeL, hb]
theorem Vw.seeL_out {V : Vw} {h : Heap} {l : List Addr} {b : Addr} (hb : b ∉ l) : V.seeL h l b = V b := by simp [Vw.seeL, hb]
theorem Vw.hide_in {V : Vw} {l : List Addr} {b : Addr} (hb : b ∈ l) : V.hide l b = none := by simp [Vw.hide, hb]
theorem Vw.hide_out {V : Vw} {l : List Addr} {b : Addr} (hb : b ∉ l) : V.hide l b = V b := by simp [Vw.hide, hb]
theorem Vw.le_seeL {V : Vw} {h : Heap} {l : List Addr} (hn : ∀ b ∈ l, V b = none) : V.le (V.seeL h l) := fun b o e => by
  have : b ∉ l := fun q => by rw [hn b q] at e; cases e
  rw [Vw.seeL_out this]; exact e

noncomputable def Mu.toD : Mu → D
  | .dct kvs => .dct kvs
  | .lst ds => .lst ds
  | .grid rows => .lst (rows.map fun r => .lst (intsD r))
  | .tab _ => .none

theorem MuOk.rep {P : Params} {V : Vw} {h : Heap} {a : Addr} {bs : List Addr} {m : Mu} (x : MuOk P V h a bs m) (hn : ∀ b ∈ a :: bs, V b = none) (ht : ∀ ps, m ≠ .tab ps) : Rep P (V.seeL h (a :: bs)) (.ref a) m.toD := by
  cases x with
  | tab _ _ => exact absurd rfl (ht _)
  | dct z e i n => exact .dct z (by rw [Vw.seeL_in (by simp)]; exact e) i n
  | lst e r => exact .lst (by rw [Vw.seeL_in (by simp)]; exact e) (r.mono (Vw.le_seeL hn))
  | @grid _ _ rows e r =>
    refine .lst (by rw [Vw.seeL_in (by simp)]; exact e) ?_
    have : ∀ {bs' : List Addr} {rows : List (List Int)}, GridIn h bs' rows → (∀ b ∈ bs', b ∈ a :: bs) → RepAll P (V.seeL h (a :: bs)) (bs'.map .ref) (rows.map fun r => .lst (intsD r)) := by
      intro bs' rows g
      induction g with
      | nil => intro _; exact .nil
      | cons e i _ ih => intro hb; exact .cons (.lst (by rw [Vw.seeL_in (hb _ (.head _))]; exact e) (RepAll.of_ints i)) (ih fun b q => hb b (.tail _ q))
    exact this r fun b q => .tail _ q

theorem St.see {P : Params} {hB : Heap} {env : Env} {ρ : Nm} {V : Vw} {s : Shared} (st : St P hB env ρ V s) {l : List Addr} (hl : ∀ b ∈ l, V b = none ∧ (b ≠ env.locals ∧ env.frame ≠ some b) ∧ ∀ x c, env.cells.lookup x = some c → c ≠ b) : St P hB env ρ (V.seeL s.heap l) s where
  base := fun a o e => Vw.le_seeL (fun b q => (hl b q).1) a o (st.base a o e)
  held := fun a o e => by
    by_cases q : a ∈ l
    · rw [Vw.seeL_in q] at e; exact e
    · rw [Vw.seeL_out q] at e; exact st.held a o e
  fn := st.fn
  glob := st.glob
  blt := st.blt
  above := st.above
  locV := by rw [Vw.seeL_out fun q => (hl _ q).2.1.1 rfl]; exact st.locV
  frm := fun f hf => by
    obtain ⟨h1, h2⟩ := st.frm f hf
    exact ⟨by rw [Vw.seeL_out fun q => (hl _ q).2.1.2 hf]; exact h1, h2⟩
  ns := st.ns
  cell := fun x c hc => by
    obtain ⟨h1, h2⟩ := st.cell x c hc
    exact ⟨by rw [Vw.seeL_out fun q => (hl _ q).2.2 x c hc rfl]; exact h1, h2⟩
  apart := st.apart
  names := fun x d e => by
    obtain ⟨h1, v, r, l'⟩ := st.names x d e
    exact ⟨h1, v, r.mono (Vw.le_seeL fun b q => (hl b q).1), l'⟩

theorem MuAll.see {P : Params} {V V' : Vw} {env : Env} {h : Heap} (hle : V.le V') {μ : List (Str × Mu)} {F : List (List Addr)} (m : MuAll P V env h μ F) : MuAll P V' env h μ F := by
  induction m with
  | nil => exact .nil
  | cons d l m _ ih => exact .cons d l (m.mono hle fun _ _ _ e => e) ih

/-- a handle is frozen -/
theorem StM.freeze {P : Params} {hB : Heap} {env : Env} {ρ : Nm} {μ : List (Str × Mu)} {x : Str} {m : Mu} {l : List Addr} {F : List (List Addr)} {V : Vw} {s : Shared} (st : StM P hB env ρ ((x, m) :: μ) (l :: F) V s) (hx : x ≠ anon) (ht : ∀ ps, m ≠ .tab ps) :
    StM P hB env ((x, m.toD) :: ρ) μ F (V.seeL s.heap l) s := by
  have hl : ∀ b ∈ l, V b = none ∧ (b ≠ env.locals ∧ env.frame ≠ some b) ∧ ∀ x c, env.cells.lookup x = some c → c ≠ b := fun b hb => st.off b (inF hb)
  have hnd := st.nd
  rw [List.flatten_cons] at hnd
  have hst := st.st.see hl
  cases st.mu with
  | @cons _ a bs _ _ _ hd hload hm hr =>
  refine ⟨{ hst with names := fun y d e => ?_ }, hr.see (Vw.le_seeL fun b q => (hl b q).1), (List.nodup_append.mp hnd).2.1, fun b hb => ?_⟩
  · rcases lookup_cons_of e with ⟨rfl, rfl⟩ | ⟨_, e⟩
    · exact ⟨hd, _, hm.rep (fun b q => (hl b q).1) ht, hload hx⟩
    · exact hst.names y d e
  · obtain ⟨h1, h2⟩ := st.off b (inT hb)
    refine ⟨?_, h2⟩
    rw [Vw.seeL_out fun q => (List.nodup_append.mp hnd).2.2 b q b hb rfl]
    exact h1

mutual
noncomputable def D.nolst : D → Bool
  | .tup ds => D.nolstL ds
  | .lst _ => false
  | .cmp _ => false
  | _ => true
noncomputable def D.nolstL : List D → Bool
  | [] => true
  | d :: ds => D.nolst d && D.nolstL ds
end
noncomputable def D.atom : D → Bool
  | .none => true
  | .bool _ => true
  | .int _ => true
  | .str _ => true
  | _ => false

theorem hide_out {V : Vw} {l : List Addr} (hl : ∀ b ∈ l, ∃ vs n, V b = some (lstObj vs n)) {a : Addr} {o : Obj} (e : V a = some o) {n : String} (hc : o.cls = .type n) (hn : n ≠ "list") : V.hide l a = some o := by
  rw [Vw.hide_out]
  · exact e
  · intro q
    obtain ⟨vs, n, e'⟩ := hl _ q
    rw [Option.some.inj (e.symm.trans e')] at hc
    exact hn (Value.type.inj hc).symm
theorem Rep.hide {P : Params} {V : Vw} {l : List Addr} (hl : ∀ b ∈ l, ∃ vs n, V b = some (lstObj vs n)) {v : Value} {d : D} (t : Rep P V v d) : d.nolst = true → Rep P (V.hide l) v d :=
  Rep.rec (motive_1 := fun v d _ => d.nolst = true → Rep P (V.hide l) v d) (motive_2 := fun vs ds _ => D.nolstL ds = true → RepAll P (V.hide l) vs ds) (fun _ => .none) (fun b _ => .bool b) (fun i t _ => .int i t) (fun x t _ => .str x t)
    (fun e _ ih h => .tup (hide_out hl e rfl (by decide)) (ih h)) (fun _ _ _ h => nomatch h) (fun z e r n _ => .dct z (hide_out hl e rfl (by decide)) r n) (fun _ _ _ _ h => nomatch h) (fun e _ => .rng (hide_out hl e rfl (by decide))) (fun n _ => .typ n)
    (fun _ => .nil) (fun _ _ a b h => .cons (a (Bool.and_eq_true_iff.mp h).1) (b (Bool.and_eq_true_iff.mp h).2)) t
theorem RepAll.hide {P : Params} {V : Vw} {l : List Addr} (hl : ∀ b ∈ l, ∃ vs n, V b = some (lstObj vs n)) {vs : List Value} {ds : List D} (t : RepAll P V vs ds) : D.nolstL ds = true → RepAll P (V.hide l) vs ds :=
  RepAll.ind (motive := fun vs ds => D.nolstL ds = true → RepAll P (V.hide l) vs ds) (fun _ => .nil) (fun e _ ih h => .cons (e.hide hl (Bool.and_eq_true_iff.mp h).1) (ih (Bool.and_eq_true_iff.mp h).2)) t
theorem Rep.atom {P : Params} {V V' : Vw} {v : Value} {d : D} (r : Rep P V v d) (h : d.atom = true) : Rep P V' v d := by
  cases r <;> first | (simp [D.atom] at h; done) | (constructor; done)

section
variable {prog : Program} {w : World} {hB : Heap} {A : Around} {env : Env} {ρ : Nm} {μ : List (Str × Mu)}

theorem ext_hide {V V' : Vw} {s s' : Shared} {l : List Addr} (hl : ∀ b ∈ l, V b = none) (x : Ext env (V.seeL s.heap l) s V' s') : Ext env V s (V'.hide l) s' :=
  ⟨x.same, x.keep, x.loc, x.ns, x.locF, x.nsF, fun b o e => by
    have hb : b ∉ l := fun q => by rw [hl b q] at e; cases e
    rw [Vw.hide_out hb]; exact x.le b o (by rw [Vw.seeL_out hb]; exact e),
   fun b o e => by
    by_cases hb : b ∈ l
    · rw [Vw.hide_in hb] at e; cases e
    · rw [Vw.hide_out hb] at e
      rcases x.new b o e with q | q
      · rw [Vw.seeL_out hb] at q; exact .inl q
      · exact .inr q,
   fun b o e => by
    by_cases hb : b ∈ l
    · rw [Vw.hide_in hb] at e; cases e
    · rw [Vw.hide_out hb] at e; exact x.held b o e⟩

theorem muAll_cons_shape {P : Params} {V : Vw} {h : Heap} {x : Str} {m : Mu} {F : List (List Addr)} (q : MuAll P V env h ((x, m) :: μ) F) : ∃ a bs F', F = (a :: bs) :: F' ∧ MuOk P V h a bs m ∧ (x ≠ anon → LoadsTo env h x (.ref a)) ∧ (x == ("__debug__" : Str)) = false := by
  cases q with
  | cons d l m r => exact ⟨_, _, _, rfl, m, l, d⟩

/-- an expression that reads a handle -/
theorem EvM.peek {x : Str} {m : Mu} {e : Expr} {d : D} (hx : x ≠ anon) (h : Ev prog w hB A env ((x, m.toD) :: ρ) e d) (hd : d.atom = true ∨ ((∀ kvs, m ≠ .dct kvs) ∧ d.nolst = true)) (ht : ∀ ps, m ≠ .tab ps := by nofun) : EvM prog w hB A env ρ ((x, m) :: μ) e d := fun F V s E st => by
  obtain ⟨a, bs, F', rfl, hm, hload, hdb⟩ := muAll_cons_shape st.mu
  have hoff : ∀ b ∈ a :: bs, V b = none := fun b hb => (st.off b (inF hb)).1
  refine wpAny_mono (h _ s E (st.freeze hx ht).st) (fun v s' ⟨V', y, r⟩ => ⟨V'.hide (a :: bs), ext_hide hoff y, ?_⟩) fun _ _ e => e
  rcases hd with hd | ⟨hnd, hd⟩
  · exact r.atom hd
  · refine r.hide (fun b hb => ?_) hd
    have see : ∀ o, s.heap.get? b = some o → V' b = some o := fun o e => y.le b o (by rw [Vw.seeL_in hb]; exact e)
    cases hm with
    | dct _ _ _ _ => exact absurd rfl (hnd _)
    | tab _ _ => exact absurd rfl (ht _)
    | lst e _ => rw [List.mem_singleton.mp hb] at see ⊢; exact ⟨_, _, see _ e⟩
    | grid e g =>
      rcases List.mem_cons.mp hb with q | q
      · subst q; exact ⟨_, _, see _ e⟩
      · have : ∀ {bs : List Addr} {rows : List (List Int)}, GridIn s.heap bs rows → b ∈ bs → ∃ vs n, s.heap.get? b = some (lstObj vs n) := by
          intro bs rows g
          induction g with
          | nil => intro q; exact nomatch q
          | cons e _ _ ih => intro q; rcases List.mem_cons.mp q with rfl | q
                             · exact ⟨_, _, e⟩
                             · exact ih q
        obtain ⟨vs, n, e'⟩ := this g q
        exact ⟨vs, n, see _ e'⟩

theorem Ex.freeze {x : Str} {m : Mu} {ss : List Stmt} {o : Out} (hx : x ≠ anon) (h : Ex prog w hB A env ((x, m.toD) :: ρ) μ ss o) (ht : ∀ ps, m ≠ .tab ps := by nofun) : Ex prog w hB A env ρ ((x, m) :: μ) ss o := fun F V s E st => by
  obtain ⟨a, bs, F', rfl, hm, hload, hdb⟩ := muAll_cons_shape st.mu
  have hoff : ∀ b ∈ a :: bs, V b = none := fun b hb => (st.off b (inF hb)).1
  refine wpAny_mono (h F' _ s E (st.freeze hx ht)) (fun f s' ⟨V', y, hf⟩ => ⟨V', ⟨y.same, fun b o n hb e => y.keep b o n (fun q => hb (inT q)) e, (Vw.le_seeL hoff).trans y.le, fun b o e => ?_, y.held, y.nsF⟩, ?_⟩) fun _ _ e => e
  · rcases y.new b o e with q | q | q | q
    · by_cases hb : b ∈ a :: bs
      · exact .inr (.inl (inF hb))
      · rw [Vw.seeL_out hb] at q; exact .inl q
    · exact .inr (.inl (inT q))
    · exact .inr (.inr (.inl q))
    · exact .inr (.inr (.inr q))
  · cases o with
    | ret d => exact hf
    | next ρ' μ' =>
      obtain ⟨h1, F₁, h2, h3⟩ := hf
      refine ⟨h1, F₁, fun b hb => (h2 b hb).imp (fun q => inT q) id, h3⟩

/-- a handle's name is read -/
theorem load_handle {x : Str} {p : Pos} {m : Mu} {a : Addr} {bs : List Addr} {F : List (List Addr)} {V : Vw} {s : Shared} {E : Value → Shared → Prop} {Q : Value → Shared → Prop} (st : StM w.params hB env ρ ((x, m) :: μ) ((a :: bs) :: F) V s) (hx : x ≠ anon) (hq : Q (.ref a) s)
    (hc : (x == ("__classdict__" : Str)) = false := by decide) : wpAny (model prog w) A (eval (.Name x p) env) Q E s := by
  cases st.mu with
  | cons d l m r => exact loadsTo_name (V := V) st.st.fn d (l hx) hc hq

/-- a new object is stored under a name -/
theorem store_new {F : List (List Addr)} {V : Vw} {s : Shared} {x : Str} {a : Addr} {bs : List Addr} {m : Mu} {E : Value → Shared → Prop} (st : StM w.params hB env ρ μ F V s) (hx : Storable env x) (hm : ∀ p ∈ μ, p.1 ≠ x) (hρ : ρ.lookup x = none)
    (hok : MuOk w.params V s.heap a bs m) (hnd : (a :: bs).Nodup) (hF : ∀ b ∈ a :: bs, b ∉ F.flatten ∧ V b = none ∧ ¬ Frm env b) {Q : Unit → Shared → Prop}
    (hQ : ∀ s', ExtS env F V s V s' → StM w.params hB env ρ ((x, m) :: μ) ((a :: bs) :: F) V s' → Q () s') : wpAny (model prog w) A (storeName env x (.ref a)) Q E s := by
  refine store_any st.st hx fun s' W hW hsame hs' hVW hl hls hns hcs hWk hfr => hQ s' ⟨hsame, fun a o n _ e => hs'.extBut a o (fun q => n (q ▸ hW)) e, V.le_refl, fun _ _ e => .inl e, fun a o e => ?_, fun f m hf hne n => n.sameBut hs' (by
    rcases hWk with e | ⟨y, e⟩
    · rw [e]; exact hne
    · obtain ⟨_, _, _, _, hc⟩ := st.st.cell y W e
      exact Ne.symm (cell_not_ns hc n))⟩ ?_
  · exact hs'.extBut a o (ne_none hVW e) (st.st.held a o e)
  · have hWa : ∀ b ∈ a :: bs, b ≠ W := fun b hb q => (hF b hb).2.2 (by
      rcases hWk with e | ⟨y, e⟩
      · exact .inl (.inl (q.trans e))
      · exact .inr ⟨y, by rw [q]; exact e⟩)
    refine ⟨{ base := st.st.base, held := fun a o e => hs'.extBut a o (ne_none hVW e) (st.st.held a o e), fn := st.st.fn, glob := st.st.glob, blt := st.st.blt, above := st.st.above, locV := st.st.locV, ns := hns,
              cell := fun y c hy => by
                obtain ⟨h1, h2, h3, _⟩ := st.st.cell y c hy
                exact ⟨h1, h2, h3, hcs y c hy⟩
              apart := st.st.apart
              frm := fun f hf => ⟨(st.st.frm f hf).1, hfr f hf⟩
              names := fun y d' hy => by
                have hne : y ≠ x := fun q => by rw [q, hρ] at hy; cases hy
                obtain ⟨h1, v', r', l⟩ := st.st.names y d' hy
                exact ⟨h1, v', r', hls y v' hne l⟩ },
      .cons hx.1 (fun _ => hl) (hok.mono V.le_refl fun b hb o e => hs'.extBut b o (hWa b hb) e) (muAll_store hs' hls st.mu hm (fun a ha q => ?_)), ?_, fun b hb => ?_⟩
    · obtain ⟨h1, h2, h3⟩ := st.off a ha
      rcases hWk with e | ⟨y, e⟩
      · exact h2.1 (q.trans e)
      · exact h3 y W e q.symm
    · rw [List.flatten_cons, List.nodup_append]
      exact ⟨hnd, st.nd, fun b hb c hc q => (hF b hb).1 (q ▸ hc)⟩
    · rw [List.flatten_cons, List.mem_append] at hb
      rcases hb with hb | hb
      · obtain ⟨_, h1, h2⟩ := hF b hb
        exact ⟨h1, ⟨fun q => h2 (.inl (.inl q)), fun q => h2 (.inl (.inr q))⟩, fun y c hc q => h2 (.inr ⟨y, by rw [← q]; exact hc⟩)⟩
      · exact st.off b hb

theorem new_off {F : List (List Addr)} {V : Vw} {s : Shared} (st : StM w.params hB env ρ μ F V s) {b : Addr} (hb : s.heap.get? b = none) : b ∉ F.flatten ∧ V b = none ∧ ¬ Frm env b := by
  refine ⟨fun q => ?_, st.st.held.gone hb, fun q => ?_⟩
  · obtain ⟨o, ho⟩ := st.mu.lt b q; exact no hb ho
  · rcases q with (q | q) | ⟨x, q⟩
    · obtain ⟨m, o, _, _, ho, _⟩ := st.st.ns; rw [← q, hb] at ho; cases ho
    · obtain ⟨_, m, o, _, _, ho, _⟩ := st.st.frm b q; exact no hb ho
    · obtain ⟨_, _, _, _, o, ho, _⟩ := st.st.cell x b q; exact no hb ho

/-- a display gives a new list -/
noncomputable def EvNew (prog : Program) (w : World) (hB : Heap) (A : Around) (env : Env) (ρ : Nm) (e : Expr) (ds : List D) : Prop :=
  ∀ V s E, St w.params hB env ρ V s → wpAny (model prog w) A (eval e env) (fun v s' => ∃ V' a vs n, v = .ref a ∧ Ext env V s V' s' ∧ s.heap.get? a = none ∧ V' a = none ∧ s'.heap.get? a = some (lstObj vs n) ∧ RepAll w.params V' vs ds) E s
theorem EvNew.list {pos : Pos} {es : List Expr} {ds : List D} (h : EvL prog w hB A env ρ pos es ds) (hz : ds.length ≤ 1000) : EvNew prog w hB A env ρ (.List es pos) ds := fun V s E st => by
  refine List_ (wpAny_mono (h V s E st) (fun vs s₁ ⟨V₁, x₁, r₁⟩ => ?_) fun _ _ e => e)
  refine wpAny_newObj_type ⟨V₁, s₁.heap.objs.size, vs, 0, rfl, x₁.trans ((ExtF.of_keep (t := s₁.toks) x₁.held fun a o e => Heap.get?_push_of_some _ e).toExt _), get_none_back (fun o q => x₁.someAt _ o q) (get_size_none _ (Nat.le_refl _)),
    Held.fresh x₁.held (Nat.le_refl _), Heap.get?_push_size _ rfl, r₁⟩ ?_
  show vs.toArray.size ≤ sizeLine
  rw [List.size_toArray, r₁.length, sizeLine_eq]; (first | lia | omega)

theorem Ex1.newLst {x : Str} {p pos : Pos} {e : Expr} {ds : List D} (h : EvNew prog w hB A env ρ e ds) (hx : Storable env x) (hm : ∀ p ∈ μ, p.1 ≠ x) (hρ : ρ.lookup x = none) (hs : swapsWith e (some (.Name x p)) pos.line env = pure false := by rfl) :
    Ex1 prog w hB A env ρ μ (.Assign [.Name x p] e pos) (.next ρ ((x, .lst ds) :: μ)) := fun F V s E st => by
  refine wpAny_Assign_Name (wpAny_mono (h V s E st.st) (fun v s₁ ⟨V₁, a, vs, n, hv, y, hna, hVa, ho, r⟩ => ?_) fun _ _ e => e) hs
  subst hv
  have hoff := new_off st hna
  refine store_new (bs := []) (st.ext y) hx hm hρ (.lst ho r) (by simp) (fun b hb => ?_) fun s' z st' => ⟨V₁, y.toS.trans (fun _ h => .inl h) z, rfl, _, fun b hb => ?_, st'⟩
  · rw [List.mem_singleton.mp hb]; exact ⟨hoff.1, hVa, hoff.2.2⟩
  · rw [List.flatten_cons, List.mem_append] at hb
    rcases hb with hb | hb
    · rw [List.mem_singleton.mp hb]; exact .inr (.inr hna)
    · exact .inl hb

theorem Ex1.newDct {x : Str} {p pos dp : Pos} (hx : Storable env x) (hm : ∀ p ∈ μ, p.1 ≠ x) (hρ : ρ.lookup x = none) (hlow : 1 < hB.objs.size)
    (hs : swapsWith (.Dict [] [] dp) (some (.Name x p)) pos.line env = pure false := by rfl) :
    Ex1 prog w hB A env ρ μ (.Assign [.Name x p] (.Dict [] [] dp) pos) (.next ρ ((x, .dct []) :: μ)) := fun F V s E st => by
  refine wpAny_Assign_Name (wpAny_Dict_empty ?_) hs
  have y := (ExtF.of_keep (t := s.toks) st.st.held (h' := s.heap.push { cls := .type "dict", data := .dict #[] }) fun a o e => Heap.get?_push_of_some _ e)
  have hna := get_size_none s.heap (Nat.le_refl _)
  have hoff := new_off st hna
  refine store_new (bs := []) (m := .dct []) (st.ext (y.toExt _)) hx hm hρ (.dct (es := []) (n := 0) ?_ (Heap.get?_push_size _ rfl) .nil (by simp)) (by simp) (fun b hb => ?_) fun s' z st' => ⟨V, (y.toExt env).toS.trans (fun _ h => .inl h) z, rfl, _, fun b hb => ?_, st'⟩
  · refine beq_eq_false_iff_ne.mpr (Nat.ne_of_gt ?_)
    exact Nat.lt_of_lt_of_le hlow st.st.low
  · rw [List.mem_singleton.mp hb]; exact hoff
  · rw [List.flatten_cons, List.mem_append] at hb
    rcases hb with hb | hb
    · rw [List.mem_singleton.mp hb]; exact .inr (.inr hna)
    · exact .inl hb
end
end Mine
namespace Mine
section
variable {prog : Program} {w : World} {hB : Heap} {A : Around} {env : Env} {ρ : Nm} {μ : List (Str × Mu)} {E : Value → Shared → Prop} {s : Shared}

theorem setItem_lst {a : Addr} {vs : List Value} {n : Nat} {k : Int} {t : Tok} {v : Value} {Q : Unit → Shared → Prop} (ho : s.heap.get? a = some (lstObj vs n)) (h0 : 0 ≤ k) (hfit : k < 2 ^ 63) (hn : k.toNat < vs.length)
    (hQ : ∀ h' n', h'.get? a = some (lstObj (vs.set k.toNat v) n') → Heap.SameBut a s.heap h' → Q () { s with heap := h' }) :
    wpAny (model prog w) A (setItem (.ref a) (.int k t) v) Q E s := by
  have hT : s.TypeIs (.ref a) "list" := ⟨_, ho, rfl⟩
  unfold setItem
  try with_reducible refine wpAny_holding ?_
  refine wpAny_bind (wpAny_sequenceKey hT (by decide) ?_)
  refine wpAny_bind (wpAny_callSpecial?_slot (name := Str.ofString "__setitem__") hT slot_list_setitem
    (wpAny_call_entry slot_list_setitem hT entry_list_setitem ?_ (args_list_setitem _ _ _)))
  show wpAny _ _ (Builtin.List.listSubscript? (.int k t) >>= _) _ _ s
  refine wpAny_bind (wpAny_listSubscript_int (fitsIndex_of h0 hfit) ?_)
  clear hfit
  obtain ⟨j, rfl⟩ := Int.eq_ofNat_of_zero_le h0
  have hj : j < vs.toArray.size := by simpa using hn
  have hx' : vs.toArray[j]? = some vs.toArray[j] := Array.getElem?_eq_getElem hj
  show wpAny _ _ ((seqItemAt a j >>= fun r => pure (r.map (j, ·))) >>= _) _ _ s
  refine wpAny_bind (wpAny_bind (wpAny_seqItemAt ho rfl (wpAny_pure ?_)))
  rw [hx']
  show wpAny _ _ (setSeqItemAt a j v >>= _) _ _ s
  have hmap : Obj.mapSeq (·.setIfInBounds j v) (lstObj vs n) = lstObj (vs.set j v) n := by simp [Obj.mapSeq]
  have hfin : (s.heap.update a (Obj.mapSeq (·.setIfInBounds j v))).get? a = some (lstObj (vs.set j v) n) := by
    rw [Heap.get?_update_self _ ho (by rw [hmap]; rfl), hmap]
  refine wpAny_bind (wpAny_setSeqItemAt ho rfl ?_)
  first
    | exact wpAny_bind (wpAny_pure (wpAny_pure ⟨.none, rfl, wpAny_pure (hQ _ _ hfin (Heap.SameBut.update ..))⟩))
    | exact wpAny_pure ⟨.none, rfl, wpAny_pure (hQ _ _ hfin (Heap.SameBut.update ..))⟩

/-- the first handle is changed in place -/
theorem StM.change1 {x : Str} {m m' : Mu} {a : Addr} {bs : List Addr} {F : List (List Addr)} {V : Vw} {s : Shared} {h' : Heap} {tk : Nat} (st : StM w.params hB env ρ ((x, m) :: μ) ((a :: bs) :: F) V s)
    (hk : ∀ b o, b ∉ a :: bs → s.heap.get? b = some o → h'.get? b = some o) (hm : MuOk w.params V h' a bs m') :
    ExtS env ((a :: bs) :: F) V s V { s with heap := h', toks := tk } ∧ StM w.params hB env ρ ((x, m') :: μ) ((a :: bs) :: F) V { s with heap := h', toks := tk } := by
  have st' := st.change (tk := tk) hk hm st.nd fun b hb hb' => absurd hb hb'
  exact ⟨⟨⟨_, _, rfl⟩, fun b o _ n e => hk b o (fun q => n (inF q)) e, V.le_refl, fun _ _ e => .inl e, st'.st.held, fun f m hf hne n => n.at' fun o e => hk f o (fun q => (st.off f (inF q)).2.1.2 hf) e⟩, st'⟩

/-- «x[i] = e», a list -/
theorem Ex1.setLst {x : Str} {p sp pos : Pos} {i e : Expr} {ds : List D} {k : Int} {d : D} (hx : x ≠ anon) (he : EvM prog w hB A env ρ ((x, .lst ds) :: μ) e d) (hi : EvM prog w hB A env ρ ((x, .lst ds) :: μ) i (.int k)) (h0 : 0 ≤ k) (hfit : k < 2 ^ 63) (hn : k.toNat < ds.length)
    (hc : (x == ("__classdict__" : Str)) = false := by decide) (hs : swapsWith e (some (.Subscript (.Name x p) i sp)) pos.line env = pure false := by rfl) :
    Ex1 prog w hB A env ρ ((x, .lst ds) :: μ) (.Assign [.Subscript (.Name x p) i sp] e pos) (.next ρ ((x, .lst (ds.set k.toNat d)) :: μ)) := fun F V s E st => by
  obtain ⟨a, bs, F', rfl, _⟩ := muAll_cons_shape st.mu
  refine wpAny_Assign_Subscript (wpAny_mono (he _ V s E st) (fun v s₁ ⟨V₁, y₁, r₁⟩ => ?_) fun _ _ e => e) hs
  refine load_handle (st.ext y₁) hx ?_ hc
  refine wpAny_mono (hi _ V₁ s₁ E (st.ext y₁)) (fun iv s₂ ⟨V₂, y₂, r₂⟩ => ?_) fun _ _ e => e
  have st₂ := (st.ext y₁).ext y₂
  (first | refine RepAll.nilE ?_ r₂ | refine Rep.intE (fun _ => ?_) r₂ | refine Rep.strE (fun _ => ?_) r₂ | refine Rep.boolE ?_ r₂ | cases r₂)
  obtain ⟨vs, n, hbs, ho, rr⟩ := st₂.mu.lstAt
  subst hbs
  refine setItem_lst ho h0 hfit (by rw [rr.length]; exact hn) fun h' n' ho' hs' => ?_
  have rset : RepAll w.params V₂ (vs.set k.toNat v) (ds.set k.toNat d) := by
    have : ∀ {vs : List Value} {ds : List D}, RepAll w.params V₂ vs ds → ∀ j, RepAll w.params V₂ (vs.set j v) (ds.set j d) := by
      intro vs
      induction vs with
      | nil => intro ds r j; (first | refine RepAll.nilE ?_ r | refine Rep.intE (fun _ => ?_) r | refine Rep.strE (fun _ => ?_) r | refine Rep.boolE ?_ r | cases r); exact .nil
      | cons u us ih =>
        intro ds r j
        cases r with
        | cons e r =>
          cases j with
          | zero => exact .cons (r₁.mono y₂.le) r
          | succ j => exact .cons e (ih r j)
    exact this rr _
  obtain ⟨z, st'⟩ := st₂.change1 (tk := s₂.toks) (fun b o hb e => hs'.extBut b o (fun q => hb (by simp [q])) e) (.lst ho' rset)
  exact ⟨V₂, (y₁.trans y₂).toS.trans (fun _ h => .inl h) z, rfl, _, fun _ h => .inl h, st'⟩

theorem stored_dput {kv : List (Str × Value)} {kvs : List (Str × Int)} (h : DVal kv kvs) (hnd : (kvs.map (·.1)).Nodup) (k : Str) (i : Int) (t : Tok) : DVal (stored kv k (.int i t)) (dput kvs k i) := by
  have key : ∀ {kv : List (Str × Value)} {kvs : List (Str × Int)}, DVal kv kvs → (kv.any fun p => p.1 = k) = false → DVal (kv ++ [(k, .int i t)]) (dput kvs k i) := by
    intro kv kvs h
    induction h with
    | nil => intro _; exact .cons .nil
    | @cons x j u kv kvs h ih =>
      intro hn
      simp only [List.any_cons, Bool.or_eq_false_iff, decide_eq_false_iff_not] at hn
      unfold dput
      rw [if_neg hn.1]
      exact .cons (ih hn.2)
  have key2 : ∀ {kv : List (Str × Value)} {kvs : List (Str × Int)}, DVal kv kvs → k ∉ kvs.map (·.1) → (kv.map fun p => if p.1 = k then (p.1, .int i t) else p) = kv := by
    intro kv kvs h
    induction h with
    | nil => intro _; rfl
    | @cons x j u kv kvs h ih =>
      intro hn
      simp only [List.map_cons, List.mem_cons, not_or] at hn
      rw [List.map_cons, ih hn.2, if_neg (fun q => hn.1 q.symm)]
  have key3 : ∀ {kv : List (Str × Value)} {kvs : List (Str × Int)}, DVal kv kvs → (kvs.map (·.1)).Nodup → (kv.any fun p => p.1 = k) = true → DVal (kv.map fun p => if p.1 = k then (p.1, .int i t) else p) (dput kvs k i) := by
    intro kv kvs h
    induction h with
    | nil => intro _ hn; simp at hn
    | @cons x j u kv kvs h ih =>
      intro hnd hn
      simp only [List.map_cons, List.nodup_cons] at hnd
      unfold dput
      by_cases hx : x = k
      · subst hx
        rw [List.map_cons, key2 h hnd.1, if_pos rfl, if_pos rfl]
        exact .cons h
      · rw [List.map_cons, if_neg hx, if_neg hx]
        refine .cons (ih hnd.2 ?_)
        simpa [hx] using hn
  unfold stored
  cases ha : kv.any (fun p => p.1 = k) with
  | true => rw [if_pos rfl]; exact key3 h hnd ha
  | false => rw [if_neg (by decide)]; exact key h ha

theorem dput_length (kvs : List (Str × Int)) (k : Str) (i : Int) : (dput kvs k i).length ≤ kvs.length + 1 := by
  induction kvs with
  | nil => simp [dput]
  | cons p r ih => obtain ⟨x, j⟩ := p; unfold dput; split <;> simp <;> (first | lia | omega)

/-- a dict's store -/
theorem setItem_dct {a : Addr} {es : List DictEntry} {n : Nat} {kvs : List (Str × Int)} {k : Str} {i : Int} {t u : Tok} {Q : Unit → Shared → Prop} (ho : s.heap.get? a = some (dictOf es n)) (de : DEnt w.params es kvs) (hnd : (kvs.map (·.1)).Nodup) (hz : kvs.length ≤ 1000)
    (hQ : ∀ h' es' n', h'.get? a = some (dictOf es' n') → DEnt w.params es' (dput kvs k i) → ((dput kvs k i).map (·.1)).Nodup → Heap.SameBut a s.heap h' → Q () { s with heap := h', toks := s.toks + 1 }) :
    wpAny (model prog w) A (setItem (.ref a) (.str k t) (.int i u)) Q E s := by
  obtain ⟨kv, hd, hv⟩ := de.dictAt (prog := prog) ho hnd
  refine wpAny_setItem_pairs (knd := strKind prog w) (k := k) (kvs := kv) (strKind_is prog w k t) hd.dictOf (fun h' hd' hs' => ?_) (by rw [hv.length, sizeLine_eq]; (first | lia | omega))
  obtain ⟨es', n', e', de', hn'⟩ := dictOf_back hd' (stored_dput hv hnd k i u)
  exact hQ h' es' n' e' de' hn' hs'

/-- «x[k] = e», a dict -/
theorem Ex1.setDct {x : Str} {p sp pos : Pos} {i e : Expr} {kvs : List (Str × Int)} {k : Str} {d : Int} (hx : x ≠ anon) (he : EvM prog w hB A env ρ ((x, .dct kvs) :: μ) e (.int d)) (hi : EvM prog w hB A env ρ ((x, .dct kvs) :: μ) i (.str k)) (hz : kvs.length ≤ 1000)
    (hc : (x == ("__classdict__" : Str)) = false := by decide) (hs : swapsWith e (some (.Subscript (.Name x p) i sp)) pos.line env = pure false := by rfl) :
    Ex1 prog w hB A env ρ ((x, .dct kvs) :: μ) (.Assign [.Subscript (.Name x p) i sp] e pos) (.next ρ ((x, .dct (dput kvs k d)) :: μ)) := fun F V s E st => by
  obtain ⟨a, bs, F', rfl, _⟩ := muAll_cons_shape st.mu
  refine wpAny_Assign_Subscript (wpAny_mono (he _ V s E st) (fun v s₁ ⟨V₁, y₁, r₁⟩ => ?_) fun _ _ e => e) hs
  refine load_handle (st.ext y₁) hx ?_ hc
  refine wpAny_mono (hi _ V₁ s₁ E (st.ext y₁)) (fun iv s₂ ⟨V₂, y₂, r₂⟩ => ?_) fun _ _ e => e
  have st₂ := (st.ext y₁).ext y₂
  (first | refine RepAll.nilE ?_ r₂ | refine Rep.intE (fun _ => ?_) r₂ | refine Rep.strE (fun _ => ?_) r₂ | refine Rep.boolE ?_ r₂ | cases r₂)
  (first | refine RepAll.nilE ?_ r₁ | refine Rep.intE (fun _ => ?_) r₁ | refine Rep.strE (fun _ => ?_) r₁ | refine Rep.boolE ?_ r₁ | cases r₁)
  obtain ⟨es, n, hbs, z, ho, de, hn⟩ := st₂.mu.dctAt
  subst hbs
  refine setItem_dct ho de hn hz fun h' es' n' ho' de' hn' hs' => ?_
  obtain ⟨z', st'⟩ := st₂.change1 (tk := s₂.toks + 1) (fun b o hb e => hs'.extBut b o (fun q => hb (by simp [q])) e) (.dct z ho' de' hn')
  exact ⟨V₂, (y₁.trans y₂).toS.trans (fun _ h => .inl h) z', rfl, _, fun _ h => .inl h, st'⟩

theorem getItem_dct {a : Addr} {es : List DictEntry} {n : Nat} {kvs : List (Str × Int)} {k : Str} {i : Int} {t : Tok} {Q : Value → Shared → Prop} (ho : s.heap.get? a = some (dictOf es n)) (de : DEnt w.params es kvs) (hnd : (kvs.map (·.1)).Nodup) (hg : dget kvs k = some i)
    (hQ : ∀ u, Q (.int i u) { s with toks := s.toks + 1 }) : wpAny (model prog w) A (getItem (.ref a) (.str k t)) Q E s := by
  obtain ⟨kv, hd, hv⟩ := de.dictAt (prog := prog) ho hnd
  rcases valueAt_dget hv k with ⟨h1, _⟩ | ⟨i', u, h1, h2⟩
  · exact no h1 hg
  · rw [hg] at h1; cases h1
    exact wpAny_getItem_of (strKind_is prog w k t) hd.dictOf.mapOf h2 (hQ u)

/-- «x[k] += e», a dict -/
theorem Ex1.augDct {x y : Str} {p py sp pos : Pos} {e : Expr} {kvs : List (Str × Int)} {k : Str} {d j : Int} (hx : x ≠ anon) (hi : EvM prog w hB A env ρ ((x, .dct kvs) :: μ) (.Name y py) (.str k)) (hj : dget kvs k = some j) (he : EvM prog w hB A env ρ ((x, .dct kvs) :: μ) e (.int d)) (hz : kvs.length ≤ 1000)
    (hc : (x == ("__classdict__" : Str)) = false := by decide) :
    Ex1 prog w hB A env ρ ((x, .dct kvs) :: μ) (.AugAssign (.Subscript (.Name x p) (.Name y py) sp) .Add e pos) (.next ρ ((x, .dct (dput kvs k (j + d))) :: μ)) := fun F V s E st => by
  obtain ⟨a, bs, F', rfl, _⟩ := muAll_cons_shape st.mu
  refine wpAny_AugAssign_Subscript (load_handle st hx ?_ hc)
  refine wpAny_mono (hi _ V s E st) (fun iv s₁ ⟨V₁, y₁, r₁⟩ => ?_) fun _ _ e => e
  have st₁ := st.ext y₁
  (first | refine RepAll.nilE ?_ r₁ | refine Rep.intE (fun _ => ?_) r₁ | refine Rep.strE (fun _ => ?_) r₁ | refine Rep.boolE ?_ r₁ | cases r₁)
  obtain ⟨es, n, hbs, z, ho, de, hn⟩ := st₁.mu.dctAt
  subst hbs
  refine getItem_dct ho de hn hj fun u => ?_
  have yt := (ExtF.toks st₁.st.held (s₁.toks + 1)).toExt env
  have st₂ := st₁.ext yt
  refine wpAny_mono (he _ V₁ _ E st₂) (fun v s₃ ⟨V₃, y₃, r₃⟩ => ?_) fun _ _ e => e
  have st₃ := st₂.ext y₃
  refine Rep.intE (fun t => ?_) r₃
  refine wpAny_mono (op_iadd (hB := hB) (A := A) V₃ s₃ _ _ E st₃.st.base st₃.st.held (.int j u) (.int d t)) (fun v₄ s₄ ⟨V₄, y₄, r₄⟩ => ?_) fun _ _ e => e
  have st₄ := st₃.ext (y₄.toExt _)
  (first | refine RepAll.nilE ?_ r₄ | refine Rep.intE (fun _ => ?_) r₄ | refine Rep.strE (fun _ => ?_) r₄ | refine Rep.boolE ?_ r₄ | cases r₄)
  obtain ⟨es, n, hbs, z, ho, de, hn⟩ := st₄.mu.dctAt
  refine setItem_dct ho de hn hz fun h' es' n' ho' de' hn' hs' => ?_
  obtain ⟨z', st'⟩ := st₄.change1 (tk := s₄.toks + 1) (fun b o hb e => hs'.extBut b o (fun q => hb (by simp [q])) e) (.dct z ho' de' hn')
  exact ⟨V₄, (((y₁.trans yt).trans y₃).trans (y₄.toExt _)).toS.trans (fun _ h => .inl h) z', rfl, _, fun _ h => .inl h, st'⟩

/-- «x.append(e)» -/
theorem Ex1.append {x : Str} {p ap cp pos : Pos} {e : Expr} {ds : List D} {d : D} (hx : x ≠ anon) (he : EvM prog w hB A env ρ ((x, .lst ds) :: μ) e d) (hz : ds.length ≤ 1000000)
    (hline : (ap.endLine == cp.line) = true := by rfl) (hbase : attributeBase (.Name x p) "append" env (eval (.Name x p) env) = eval (.Name x p) env := by rfl) (hc : (x == ("__classdict__" : Str)) = false := by decide)
    (htrees : backTo cp (starEach [e] env) = [(false, eval e env)] := by rfl) :
    Ex1 prog w hB A env ρ ((x, .lst ds) :: μ) (.Expr (.Call (.Attribute (.Name x p) "append" ap) [e] [] cp) pos) (.next ρ ((x, .lst (ds ++ [d])) :: μ)) := fun F V s E st => by
  obtain ⟨a, bs, F', rfl, _⟩ := muAll_cons_shape st.mu
  refine wpAny_Expr (wpAny_Call_append hbase (by rw [htrees]; rfl) hline htrees (load_handle st hx ?_ hc)) (by unfold interactive; rw [st.st.fn]; rfl)
  have hPl : ∃ its, PlainL s.heap a its := by
    obtain ⟨_, _, hbs, ho, rr⟩ := st.mu.lstAt
    subst hbs
    exact ⟨_, _, _, ho, rfl, rfl, rfl⟩
  obtain ⟨its, hPl⟩ := hPl
  refine ⟨a, its, rfl, hPl, wpAny_mono (he _ V s E st) (fun v s₁ ⟨V₁, y₁, r₁⟩ => ?_) fun _ _ e => e⟩
  have st₁ := st.ext y₁
  obtain ⟨vs, n, hbs, ho, rr⟩ := st₁.mu.lstAt
  subst hbs
  refine wpAny_list_append_plain (items := vs.toArray) ⟨n, ho⟩ (fun h' hp hs => ?_) (by rw [List.size_toArray, rr.length, sizeLine_eq]; (first | lia | omega))
  obtain ⟨n', hn'⟩ := hp
  have hn'' : h'.get? a = some (lstObj (vs ++ [v]) n') := by rw [hn']; simp
  obtain ⟨z', st'⟩ := st₁.change1 (tk := s₁.toks) (fun b o hb e => hs.extBut b o (fun q => hb (by simp [q])) e) (.lst hn'' (rr.append (.cons r₁ .nil)))
  exact ⟨V₁, y₁.toS.trans (fun _ h => .inl h) z', rfl, _, fun _ h => .inl h, st'⟩

theorem GridIn.get {h : Heap} {bs : List Addr} {rows : List (List Int)} (g : GridIn h bs rows) : ∀ {j : Nat} {is : List Int}, rows[j]? = some is → ∃ b vs n, bs[j]? = some b ∧ h.get? b = some (lstObj vs n) ∧ IntsAre vs is := by
  induction g with
  | nil => exact fun q => nomatch q
  | cons e i _ ih => exact fun {j} {_} => match j with
    | 0 => fun q => ⟨_, _, _, rfl, e, Option.some.inj q ▸ i⟩
    | _ + 1 => fun q => ih q
theorem GridIn.length {h : Heap} {bs : List Addr} {rows : List (List Int)} (g : GridIn h bs rows) : bs.length = rows.length := by
  induction g with
  | nil => rfl
  | cons _ _ _ ih => exact congrArg Nat.succ ih
theorem GridIn.set {h h' : Heap} {b : Addr} {vs : List Value} {n : Nat} {is : List Int} (hs : ∀ c o, c ≠ b → h.get? c = some o → h'.get? c = some o) (hb : h'.get? b = some (lstObj vs n)) (hi : IntsAre vs is)
    {bs : List Addr} {rows : List (List Int)} (g : GridIn h bs rows) : bs.Nodup → ∀ {j : Nat}, bs[j]? = some b → GridIn h' bs (rows.set j is) := by
  induction g with
  | nil => exact fun _ _ q => nomatch q
  | cons e i r ih => exact fun nd {j} => match j with
    | 0 => fun q => .cons (Option.some.inj q ▸ hb) hi (r.mono fun d hd o e => hs d o (fun p => (List.nodup_cons.mp nd).1 (Option.some.inj q ▸ p ▸ hd)) e)
    | _ + 1 => fun q => .cons (hs _ _ (fun p => (List.nodup_cons.mp nd).1 (p ▸ List.mem_of_getElem? q)) e) i (ih (List.nodup_cons.mp nd).2 q)
theorem GridIn.append {h : Heap} {bs cs : List Addr} {rows rs : List (List Int)} (g : GridIn h bs rows) (q : GridIn h cs rs) : GridIn h (bs ++ cs) (rows ++ rs) := by
  induction g with
  | nil => exact q
  | cons e i _ ih => exact .cons e i ih

theorem IntsAre.get {vs : List Value} {is : List Int} (h : IntsAre vs is) : ∀ {j : Nat} {i : Int}, is[j]? = some i → ∃ t, vs[j]? = some (.int i t) := by
  induction h with
  | nil => intro j i q; simp at q
  | cons n t _ ih =>
    intro j i q
    cases j with
    | zero => simp at q; subst q; exact ⟨t, rfl⟩
    | succ j => simpa using ih (by simpa using q)
theorem IntsAre.set {vs : List Value} {is : List Int} (h : IntsAre vs is) (i : Int) (t : Tok) : ∀ (j : Nat), IntsAre (vs.set j (.int i t)) (is.set j i) := by
  induction h with
  | nil => intro j; exact .nil
  | cons n u h ih =>
    intro j
    cases j with
    | zero => exact .cons i t h
    | succ j => exact .cons n u (ih j)
theorem IntsAre.len {vs : List Value} {is : List Int} (h : IntsAre vs is) : vs.length = is.length := by
  induction h with
  | nil => rfl
  | cons _ _ _ ih => simp [ih]

/-- «x[i][c] += e», a list of lists of ints -/
theorem Ex1.augGrid {x : Str} {p ip sp pos : Pos} {idx ci e : Expr} {rows : List (List Int)} {row : List Int} {j c r0 q : Int} (hx : x ≠ anon) (hj : EvM prog w hB A env ρ ((x, .grid rows) :: μ) idx (.int j)) (h0 : 0 ≤ j) (h2 : j < 2 ^ 63) (hrow : rows[j.toNat]? = some row)
    (hci : EvM prog w hB A env ρ ((x, .grid rows) :: μ) ci (.int c)) (hc0 : 0 ≤ c) (hc2 : c < 2 ^ 63) (hr0 : row[c.toNat]? = some r0) (he : EvM prog w hB A env ρ ((x, .grid rows) :: μ) e (.int q))
    (hc : (x == ("__classdict__" : Str)) = false := by decide) (hs : ∀ o i, subscripted idx false o i = operate [o, i] (getItem o i) := by intro _ _; with_unfolding_all rfl)
    (ha : ∀ ov iv new, augStore ci ov iv new = (do holding [new, ov, iv] (setItem ov iv new); release [new, ov, iv] []; pure .next) := by intro _ _ _; rfl) :
    Ex1 prog w hB A env ρ ((x, .grid rows) :: μ) (.AugAssign (.Subscript (.Subscript (.Name x p) idx ip) ci sp) .Add e pos) (.next ρ ((x, .grid (rows.set j.toNat (row.set c.toNat (r0 + q)))) :: μ)) := fun F V s E st => by
  obtain ⟨a, bs, F', rfl, _⟩ := muAll_cons_shape st.mu
  refine wpAny_AugAssign_Subscript_any (Subscript_ (load_handle st hx ?_ hc)) ha
  refine wpAny_mono (hj _ V s E st) (fun iv s₁ ⟨V₁, y₁, r₁⟩ => ?_) fun _ _ e => e
  have st₁ := st.ext y₁
  refine Rep.intE (fun tj => ?_) r₁
  have hgrid : ∀ {V : Vw} {s : Shared}, StM w.params hB env ρ ((x, .grid rows) :: μ) ((a :: bs) :: F') V s → ∃ n, s.heap.get? a = some (lstObj (bs.map .ref) n) ∧ GridIn s.heap bs rows := fun st => by
    obtain ⟨_, ho, g⟩ := st.mu.gridAt
    exact ⟨_, ho, g⟩
  obtain ⟨n₁, ho₁, g₁⟩ := hgrid st₁
  obtain ⟨b, vs, nb, hb, hob, hints⟩ := g₁.get (j := j.toNat) hrow
  have hl₁ : s₁.heap.IsList a (bs.map Value.ref).toArray := ⟨_, ho₁, rfl, _, rfl⟩
  refine tail_any hl₁.typeIs slot_list_getitem.lookup (wpAny_getItem_list hl₁ h0 h2 (x := .ref b) (by simp [hb]) ?_) (hs _ _)
  refine wpAny_mono (hci _ V₁ s₁ E st₁) (fun cv s₂ ⟨V₂, y₂, r₂⟩ => ?_) fun _ _ e => e
  have st₂ := st₁.ext y₂
  refine Rep.intE (fun tc => ?_) r₂
  have hbm : b ∈ bs := List.mem_of_getElem? hb
  have row_at : ∀ {V : Vw} {s : Shared}, StM w.params hB env ρ ((x, .grid rows) :: μ) ((a :: bs) :: F') V s → ∃ vs n, s.heap.get? b = some (lstObj vs n) ∧ IntsAre vs row := fun st => by
    obtain ⟨n, ho, g⟩ := hgrid st
    obtain ⟨b', vs, nb, hb', hob, hints⟩ := g.get (j := j.toNat) hrow
    rw [hb] at hb'; cases hb'
    exact ⟨vs, nb, hob, hints⟩
  obtain ⟨vs₂, nb₂, hob₂, hints₂⟩ := row_at st₂
  obtain ⟨t₀, hv₀⟩ := IntsAre.get hints₂ hr0
  have hl₂ : s₂.heap.IsList b vs₂.toArray := ⟨_, hob₂, rfl, _, rfl⟩
  refine wpAny_getItem_list hl₂ hc0 hc2 (x := .int r0 t₀) (by simpa using hv₀) ?_
  refine wpAny_mono (he _ V₂ s₂ E st₂) (fun v s₃ ⟨V₃, y₃, r₃⟩ => ?_) fun _ _ e => e
  have st₃ := st₂.ext y₃
  refine Rep.intE (fun t => ?_) r₃
  refine wpAny_mono (op_iadd (hB := hB) (A := A) V₃ s₃ _ _ E st₃.st.base st₃.st.held (.int r0 t₀) (.int q t)) (fun v₄ s₄ ⟨V₄, y₄, r₄⟩ => ?_) fun _ _ e => e
  have st₄ := st₃.ext (y₄.toExt _)
  refine Rep.intE (fun t₄ => ?_) r₄
  obtain ⟨vs₄, nb₄, hob₄, hints₄⟩ := row_at st₄
  obtain ⟨n₄, ho₄, g₄⟩ := hgrid st₄
  have hclt : c.toNat < row.length := (List.getElem?_eq_some_iff.mp hr0).1
  refine setItem_lst hob₄ hc0 hc2 (by rw [IntsAre.len hints₄]; exact hclt) fun h' n' ho' hs' => ?_
  have hnd : (a :: bs).Nodup := by have := st₄.nd; rw [List.flatten_cons] at this; exact (List.nodup_append.mp this).1
  rw [List.nodup_cons] at hnd
  have hab : a ≠ b := fun q => hnd.1 (q ▸ hbm)
  obtain ⟨z', st'⟩ := st₄.change1 (tk := s₄.toks) (m' := .grid (rows.set j.toNat (row.set c.toNat (r0 + q)))) (fun b' o hb' e => hs'.extBut b' o (fun q => hb' (by rw [q]; exact .tail _ hbm)) e)
    (.grid (hs'.extBut a _ hab ho₄) (GridIn.set (fun c o hc e => hs'.extBut c o hc e) ho' (IntsAre.set hints₄ _ _ _) g₄ hnd.2 hb))
  exact ⟨V₄, (((y₁.trans y₂).trans y₃).trans (y₄.toExt _)).toS.trans (fun _ h => .inl h) z', rfl, _, fun _ h => .inl h, st'⟩

/-- «x.append([..])», a row more -/
theorem Ex1.appendGrid {x : Str} {p ap cp pos : Pos} {e : Expr} {rows : List (List Int)} {is : List Int} (hx : x ≠ anon) (he : EvNew prog w hB A env ρ e (intsD is)) (hz : rows.length ≤ 1000000)
    (hline : (ap.endLine == cp.line) = true := by rfl) (hbase : attributeBase (.Name x p) "append" env (eval (.Name x p) env) = eval (.Name x p) env := by rfl) (hc : (x == ("__classdict__" : Str)) = false := by decide)
    (htrees : backTo cp (starEach [e] env) = [(false, eval e env)] := by rfl) :
    Ex1 prog w hB A env ρ ((x, .grid rows) :: μ) (.Expr (.Call (.Attribute (.Name x p) "append" ap) [e] [] cp) pos) (.next ρ ((x, .grid (rows ++ [is])) :: μ)) := fun F V s E st => by
  obtain ⟨a, bs, F', rfl, _⟩ := muAll_cons_shape st.mu
  refine wpAny_Expr (wpAny_Call_append hbase (by rw [htrees]; rfl) hline htrees (load_handle st hx ?_ hc)) (by unfold interactive; rw [st.st.fn]; rfl)
  have hPl : ∃ its, PlainL s.heap a its := by
    obtain ⟨_, ho, rr⟩ := st.mu.gridAt
    exact ⟨_, _, _, ho, rfl, rfl, rfl⟩
  obtain ⟨its, hPl⟩ := hPl
  refine ⟨a, its, rfl, hPl, wpAny_mono (he V s E st.st) (fun v s₁ ⟨V₁, b, vs, n, hv, y₁, hnb, hVb, hob, r₁⟩ => ?_) fun _ _ e => e⟩
  subst hv
  have st₁ := st.ext y₁
  have hoff := new_off st hnb
  obtain ⟨n, ho, rr⟩ := st₁.mu.gridAt
  refine wpAny_list_append_plain (items := (bs.map Value.ref).toArray) ⟨n, ho⟩ (fun h' hp hs => ?_) (by rw [List.size_toArray, List.length_map, rr.length, sizeLine_eq]; (first | lia | omega))
  obtain ⟨n', hn'⟩ := hp
  have hn'' : h'.get? a = some (lstObj ((bs ++ [b]).map .ref) n') := by rw [hn']; simp
  have hnd := st.nd
  have hbF : b ∉ ((a :: bs) :: F').flatten := hoff.1
  rw [List.flatten_cons, List.mem_append, not_or, List.mem_cons, not_or] at hbF
  have hnd0 : (a :: bs).Nodup := by rw [List.flatten_cons] at hnd; exact (List.nodup_append.mp hnd).1
  rw [List.nodup_cons] at hnd0
  have g' : GridIn h' (bs ++ [b]) (rows ++ [is]) := by
    refine GridIn.append (rr.mono fun c hc o e => hs.extBut c o (fun q => hnd0.1 (q ▸ hc)) e) (.cons (hs.extBut b _ hbF.1.1 hob) r₁.ints .nil)
  have hnd' : (((a :: (bs ++ [b])) :: F').flatten).Nodup := by
    have h1 : ((a :: (bs ++ [b])) :: F').flatten.Perm (b :: ((a :: bs) :: F').flatten) := by
      simp only [List.flatten_cons, List.cons_append, List.append_assoc]
      refine (List.Perm.cons a ?_).trans (List.Perm.swap ..)
      exact List.perm_middle
    rw [h1.nodup_iff, List.nodup_cons]
    exact ⟨hoff.1, hnd⟩
  have st' := st₁.change (tk := s₁.toks) (bs' := bs ++ [b]) (m' := .grid (rows ++ [is])) (h' := h') (fun c o hc e => hs.extBut c o (fun q => hc (by simp [q])) e) (.grid hn'' g') hnd' (fun c hc hcn => by
    rw [List.mem_append, List.mem_singleton] at hc
    rcases hc with hc | hc
    · exact absurd hc hcn
    · subst hc; exact ⟨hVb, hoff.2.2⟩)
  refine ⟨V₁, y₁.toS.trans (fun _ h => .inl h) ⟨⟨_, s₁.toks, rfl⟩, fun c o _ hc e => hs.extBut c o (fun q => hc (by rw [List.flatten_cons]; simp [q])) e, V₁.le_refl, fun _ _ e => .inl e, st'.st.held, fun f m hf hne n => n.at' fun o e => hs.extBut f o (fun q => (st₁.off f (by rw [List.flatten_cons]; simp [q])).2.1.2 hf) e⟩, rfl, _, fun c hc => ?_, st'⟩
  rw [List.flatten_cons, List.cons_append, List.mem_cons, List.mem_append, List.mem_append, List.mem_singleton] at hc
  rw [List.flatten_cons, List.cons_append, List.mem_cons, List.mem_append]
  rcases hc with hc | (hc | hc) | hc
  · exact .inl (.inl hc)
  · exact .inl (.inr (.inl hc))
  · subst hc; exact .inr (.inr hnb)
  · exact .inl (.inr (.inr hc))

/-- rows, each a new list -/
noncomputable def EvG (prog : Program) (w : World) (hB : Heap) (A : Around) (env : Env) (ρ : Nm) (pos : Pos) (es : List Expr) (rows : List (List Int)) : Prop :=
  ∀ V s E, St w.params hB env ρ V s → wpAny (model prog w) A (spliced (backTo pos (starEach es env))) (fun vs s' => ∃ V' bs, vs = bs.map .ref ∧ Ext env V s V' s' ∧ GridIn s'.heap bs rows ∧ bs.Nodup ∧ ∀ b ∈ bs, s.heap.get? b = none ∧ V' b = none) E s
theorem EvG.nil {pos : Pos} : EvG prog w hB A env ρ pos [] [] := fun V s E st => spliced_nil ⟨V, [], rfl, Ext.refl st.held, .nil, by simp, fun _ h => nomatch h⟩
theorem EvG.cons {pos : Pos} {e : Expr} {es : List Expr} {is : List Int} {rows : List (List Int)} (h : EvNew prog w hB A env ρ e (intsD is)) (r : EvG prog w hB A env ρ pos es rows)
    (he : starEach (e :: es) env = (false, eval e env) :: starEach es env := by rfl) : EvG prog w hB A env ρ pos (e :: es) (is :: rows) := fun V s E st => by
  rw [he]
  refine spliced_cons (wpAny_mono (h V s E st) (fun v s₁ ⟨V₁, b, us, n, hv, y₁, hnb, hVb, hob, r₁⟩ => ?_) fun _ _ e => e)
  subst hv
  refine wpAny_mono (r V₁ s₁ E (st.ext y₁)) (fun vs s₂ ⟨V₂, bs, hvs, y₂, g, hnd, hbs⟩ => ?_) fun _ _ e => e
  have hbL : b ≠ env.locals := fun q => by obtain ⟨m, o, _, _, ho, _⟩ := st.ns; rw [← q, hnb] at ho; cases ho
  have hbF : env.frame ≠ some b := fun q => by obtain ⟨_, m, o, _, _, ho, _⟩ := st.frm b q; exact no hnb ho
  have hV₂b : V₂ b = none := by
    cases e : V₂ b with
    | none => rfl
    | some o => rcases y₂.new b o e with q | q
                · exact no hVb q
                · exact no q hob
  refine ⟨V₂, b :: bs, by rw [hvs]; rfl, y₁.trans y₂, .cons (y₂.keep b _ hbL hbF hob) r₁.ints g, List.nodup_cons.mpr ⟨fun q => ?_, hnd⟩, fun c hc => ?_⟩
  · rw [(hbs b q).1] at hob; cases hob
  · rcases List.mem_cons.mp hc with rfl | hc
    · exact ⟨hnb, hV₂b⟩
    · exact ⟨get_none_back (fun o q => y₁.someAt c o q) (hbs c hc).1, (hbs c hc).2⟩

theorem Ex1.newGrid {x : Str} {p pos lp : Pos} {es : List Expr} {rows : List (List Int)} (h : EvG prog w hB A env ρ lp es rows) (hz : rows.length ≤ 1000) (hx : Storable env x) (hm : ∀ p ∈ μ, p.1 ≠ x) (hρ : ρ.lookup x = none)
    (hs : swapsWith (.List es lp) (some (.Name x p)) pos.line env = pure false := by rfl) :
    Ex1 prog w hB A env ρ μ (.Assign [.Name x p] (.List es lp) pos) (.next ρ ((x, .grid rows) :: μ)) := fun F V s E st => by
  refine wpAny_Assign_Name (List_ (wpAny_mono (h V s E st.st) (fun vs s₁ ⟨V₁, bs, hvs, y, g, hnd, hbs⟩ => ?_) fun _ _ e => e)) hs
  subst hvs
  refine wpAny_newObj_type ?_ (by show (List.map Value.ref bs).toArray.size ≤ sizeLine; rw [List.size_toArray, List.length_map, g.length, sizeLine_eq]; (first | lia | omega))
  have y' := (ExtF.of_keep (t := s₁.toks) y.held (h' := s₁.heap.push (lstObj (bs.map .ref) 0)) fun a o e => Heap.get?_push_of_some _ e).toExt env
  have Y := y.trans y'
  have hna : s.heap.get? s₁.heap.objs.size = none := get_none_back (fun o q => y.someAt _ o q) (get_size_none _ (Nat.le_refl _))
  have hnew : ∀ b ∈ s₁.heap.objs.size :: bs, s.heap.get? b = none ∧ V₁ b = none := fun b hb => by
    rcases List.mem_cons.mp hb with rfl | hb
    · exact ⟨hna, Held.fresh y.held (Nat.le_refl _)⟩
    · exact hbs b hb
  refine store_new (bs := bs) (m := .grid rows) (a := s₁.heap.objs.size) (st.ext Y) hx hm hρ (.grid (Heap.get?_push_size _ rfl) (g.mono fun b _ o e => Heap.get?_push_of_some _ e)) (List.nodup_cons.mpr ⟨fun q => ?_, hnd⟩) (fun b hb => ?_)
    fun s' z st' => ⟨V₁, Y.toS.trans (fun _ h => .inl h) z, rfl, _, fun b hb => ?_, st'⟩
  · have : ∀ {bs : List Addr} {rows : List (List Int)}, GridIn s₁.heap bs rows → ∀ b ∈ bs, ∃ o, s₁.heap.get? b = some o := by
      intro bs rows g
      induction g with
      | nil => intro b q; exact nomatch q
      | cons e _ _ ih => intro b q; rcases List.mem_cons.mp q with rfl | q
                         · exact ⟨_, e⟩
                         · exact ih b q
    obtain ⟨o, ho⟩ := this g _ q
    rw [get_size_none _ (Nat.le_refl _)] at ho; cases ho
  · obtain ⟨h1, h2⟩ := hnew b hb
    have := new_off st h1
    exact ⟨this.1, h2, this.2.2⟩
  · rw [List.flatten_cons, List.mem_append] at hb
    rcases hb with hb | hb
    · exact .inr (.inr (hnew b hb).1)
    · exact .inl hb

/-- «x = [.. for ..]», the stores exchanged, a list that will be changed -/
theorem Ex1.newComp {elt target iter : Expr} {ifs : List Expr} {rest : List Comprehension} {scope : Scope} {pos : Pos} {ρ₀ : Nm} {d : D} {ds rs : List D} {y : Str} {py spos : Pos}
    (hsw : swapsWith (.ListComp elt (⟨target, iter, ifs, 0⟩ :: rest) scope pos) (some (.Name y py)) spos.line env = pure true) (hy : Storable env y) (hm : ∀ p ∈ μ, p.1 ≠ y) (hρ' : ρ.lookup y = none) (hnl : D.nolstL rs = true)
    (hi : Ev prog w hB A env ρ iter d) (hI : Itr prog w hB A d ds) (hS : ScOk scope env) (hρ : ∀ x d, ρ₀.lookup x = some d → ρ.lookup x = some d ∧ scope.names.lookup x = some .free ∧ env.kindOf x ≠ some .local)
    (hG : ∀ ce, CEnv scope ce → Gath prog w hB A ce elt (⟨target, iter, ifs, 0⟩ :: rest) scope pos ρ₀ ds rs) (hs : ∀ x, foldedSetIterable iter env x = pure x := by intro _; rfl) :
    Ex1 prog w hB A env ρ μ (.Assign [.Name y py] (.ListComp elt (⟨target, iter, ifs, 0⟩ :: rest) scope pos) spos) (.next ρ ((y, .lst rs) :: μ)) := fun F V s E st => by
  rw [exec_Assign_Name_used _ _ _ _ hsw]
  refine wpAny_bind (wpAny_standAt (wpAny_bind ?_))
  show wpAny _ A (do let _ ← comprehension (.ListComp elt (⟨target, iter, ifs, 0⟩ :: rest) scope pos) scope env _ (newList []) false (eval iter env) (some (PySem.assign (.Name y py) env))) _ _ s
  refine wpAny_bind (wpAny_mono (comp_core (use := some (PySem.assign (.Name y py) env)) (Q := fun _ s' => SPost w.params hB env F V s (.next ρ ((y, .lst rs) :: μ)) .next s') st.st hi hI hS hρ (fun ce h _ => hG ce h) (fun acc C V₀ s' x₀ r hVC₀ hsC hns hna => ?_) hs) (fun _ s' hq => wpAny_pure (wpAny_pure hq)) fun _ _ e => e)
  cases r using Rep.lstE with
  | @lst _ vs n he rr =>
  have hobj := x₀.held _ _ he
  -- what is gathered is hidden again
  have rr' := rr.hide (l := [acc]) (fun b hb => by rw [List.mem_singleton.mp hb]; exact ⟨_, _, he⟩) hnl
  have hVacc : V acc = none := st.st.held.gone hna
  have hV' : (V₀.hide [acc]) acc = none := Vw.hide_in (by simp)
  have x : Ext env V s (V₀.hide [acc]) s' := ⟨x₀.same, x₀.keep, x₀.loc, x₀.ns, x₀.locF, x₀.nsF, fun b o e => by
      have hb : b ∉ [acc] := fun q => by rw [List.mem_singleton.mp q, hVacc] at e; cases e
      rw [Vw.hide_out hb]; exact x₀.le b o e,
    fun b o e => by
      by_cases hb : b ∈ [acc]
      · rw [Vw.hide_in hb] at e; cases e
      · rw [Vw.hide_out hb] at e; exact x₀.new b o e,
    fun b o e => by
      by_cases hb : b ∈ [acc]
      · rw [Vw.hide_in hb] at e; cases e
      · rw [Vw.hide_out hb] at e; exact x₀.held b o e⟩
  have hVC : (V₀.hide [acc]) C = none := by
    by_cases hb : C ∈ [acc]
    · exact Vw.hide_in hb
    · rw [Vw.hide_out hb]; exact hVC₀
  generalize V₀.hide [acc] = V' at *
  have st' := st.ext x
  have hoff := new_off st hna
  refine wpAny_assign_Name (store_new (bs := []) (m := .lst rs) st' hy hm hρ' (.lst hobj rr') (by simp) (fun b hb => by rw [List.mem_singleton.mp hb]; exact ⟨hoff.1, hV', hoff.2.2⟩) fun s'' z st'' => ?_)
  have hCF : ¬ Frm env C := fun q => by
    rcases q with (q | q) | ⟨z, q⟩
    · obtain ⟨mL, o, _, _, ho, _⟩ := st.st.ns; rw [← q, hsC] at ho; cases ho
    · obtain ⟨_, mL, o, _, _, ho, _⟩ := st.st.frm C q; exact no hsC ho
    · obtain ⟨_, _, _, _, o, ho, _⟩ := st.st.cell z C q; exact no hsC ho
  have hCM : C ∉ F.flatten := fun q => by obtain ⟨o, ho⟩ := st.mu.lt C q; exact no hsC ho
  obtain ⟨m, hm⟩ := hns
  have hCa : C ≠ acc := fun q => by
    obtain ⟨o, es, ep, ho, hd, _⟩ := hm
    rw [q, hobj] at ho; cases ho; cases hd
  refine ⟨m, ?_, fun h' hs' => ?_⟩
  · obtain ⟨o, es, ep, ho, hr⟩ := hm
    exact ⟨o, es, ep, z.keep C o (fun q => hCF q.frm) hCM ho, hr⟩
  · have hwr : ∀ b ∈ [C], V' b = none ∧ ¬ Frm env b ∧ b ∉ ([acc] :: F).flatten := fun b hb => by
      rw [List.mem_singleton.mp hb]
      refine ⟨hVC, hCF, fun q => ?_⟩
      rw [List.flatten_cons, List.mem_append, List.mem_singleton] at q
      exact q.elim hCa hCM
    have st₃ := stm_iter (wr := [C]) (h' := h') (tk := s''.toks) st'' hwr fun b o hb e => hs'.extBut b o (fun q => hb (by simp [q])) e
    have y₂ := x.toS.trans (F := F) (fun _ h => .inl h) z
    refine ⟨V', ⟨by obtain ⟨h1, t1, e1⟩ := y₂.same; exact ⟨h', t1, by rw [e1]⟩, fun a o n1 n2 e => hs'.extBut a o (ne_none hsC e) (y₂.keep a o n1 n2 e), y₂.le, y₂.new, st₃.st.held, fun f m hf hne n => (y₂.nsF f m hf hne n).sameBut hs' (fun q => hCF (.inl (.inr (q ▸ hf))))⟩, rfl, [acc] :: F, fun b hb => ?_, st₃⟩
    rw [List.flatten_cons, List.mem_append, List.mem_singleton] at hb
    rcases hb with hb | hb
    · subst hb; exact .inr (.inr hna)
    · exact .inl hb
end
end Mine
namespace Mine
/-- a walk that hands out tuples -/
structure WT (prog : Program) (w : World) (A : Around) (I : Addr) (fp wr : List Addr) (n : Nat) (Pt : Nat → List Value → Prop) (St : Nat → Heap → Prop) (Mid : Nat → Addr → Heap → Prop) : Prop where
  frame : ∀ i h h', St i h → (∀ b ∈ fp, ∀ o, h.get? b = some o → h'.get? b = some o) → St i h'
  item : ∀ i (s : Shared) (Q : Option Value → Shared → Prop) (E : Value → Shared → Prop), i < n → St i s.heap →
    (∀ T vals h' tk, Pt i vals → h'.IsTuple T vals.toArray → Mid i T h' → (∀ b o, b ∉ wr → s.heap.get? b = some o → h'.get? b = some o) → Q (some (.ref T)) { s with heap := h', toks := tk }) →
    wpAny (model prog w) A (pyNext (.ref I)) Q E s
  go : ∀ (elts : List Expr) (k : Nat) (pos : Pos) i T (s : Shared) (Q : Unit → Shared → Prop) (E : Value → Shared → Prop), Mid i T s.heap →
    (∀ h', St (i + 1) h' → (∀ b o, b ∉ wr → s.heap.get? b = some o → h'.get? b = some o) → Q () { s with heap := h' }) →
    wpAny (model prog w) A (letOwnedTupleGo (.Tuple elts k pos) (.ref I) (.ref T)) Q E s
  apart : ∀ i T h, Mid i T h → T ∉ wr
  done : ∀ (s : Shared) (Q : Option Value → Shared → Prop) (E : Value → Shared → Prop), St n s.heap →
    (∀ h' tk, (∀ b o, b ∉ wr → s.heap.get? b = some o → h'.get? b = some o) → Q none { s with heap := h', toks := tk }) → wpAny (model prog w) A (pyNext (.ref I)) Q E s

section
variable {prog : Program} {w : World} {hB : Heap} {A : Around} {env : Env} {ρ : Nm} {μ : List (Str × Mu)}

theorem WT.items (hh : A.handled = none) {kv : List (Str × Value)} {I d : Addr} {ep : Nat} (hne : d ≠ I) :
    WT prog w A I [I, d] [I] kv.length (fun i vals => ∃ k v key, kv[i]? = some (k, v) ∧ (strKind prog w).is k key = true ∧ vals = [key, v])
      (fun i h => (∃ ok ov, IsItemIter h I d i kv.length ep ok ov) ∧ h.DictAt (strKind prog w) d kv ep)
      (fun i T h => (∃ ok ov, IsItemIterOut h I d (i + 1) kv.length ep ok ov T) ∧ h.DictAt (strKind prog w) d kv ep ∧ T ≠ I) where
  frame := fun i h h' ⟨⟨ok, ov, hi⟩, hd⟩ hk => ⟨⟨ok, ov, hk I (by simp) _ hi⟩, hd.at' fun o e => hk d (by simp) o e⟩
  item := fun i s Q E hi ⟨⟨ok, ov, hit⟩, hd⟩ hQ => by
    obtain ⟨⟨k, v⟩, hx⟩ : ∃ p, kv[i]? = some p := ⟨kv[i], by simp [hi]⟩
    refine wpAny_pyNext_items_item (knd := strKind prog w) hit hd hx fun key h' hkey heo ht hz hk => ?_
    exact hQ s.heap.objs.size [key, v] h' s.toks ⟨k, v, key, hx, hkey, rfl⟩ ⟨_, ht, rfl, _, rfl⟩ ⟨⟨key, v, heo⟩, hd.at' fun o e => hk d o hne e, Nat.ne_of_gt (Heap.lt_size hit)⟩ fun b o hb e => hk b o (fun q => hb (by simp [q])) e
  go := fun elts k pos i T s Q E ⟨⟨ok, ov, ho⟩, hd, hT⟩ hQ => by
    refine wpAny_letOwnedTupleGo_items ho fun h' he' hs' => hQ h' ⟨⟨ok, ov, he'⟩, hd.at' fun o e => hs'.extBut d o hne e⟩ fun b o hb e => hs'.extBut b o (fun q => hb (by simp [q])) e
  apart := fun i T h ⟨_, _, hT⟩ q => hT (List.mem_singleton.mp q)
  done := fun s Q E ⟨⟨ok, ov, hit⟩, hd⟩ hQ => wpAny_pyNext_items_end (knd := strKind prog w) hh hit hd (by simp) fun h' he' => hQ h' s.toks fun b o hb e => he' b o (fun q => hb (by simp [q])) e

theorem WT.of {I : Addr} {fp wr : List Addr} {n : Nat} {Pt : Nat → Array Value → Prop} {St : Nat → Heap → Prop} {Mid : Nat → Addr → Heap → Prop} (W : WalksT prog w A I fp wr n Pt St Mid) : WT prog w A I fp wr n (fun i vals => Pt i vals.toArray) St Mid where
  frame := W.frame
  item := fun i s Q E hi hs hQ => W.item i s Q E hi hs fun T vals h' tk hp _ ht hm hk => hQ T vals.toList h' tk (by simpa using hp) (by simpa using ht) hm hk
  go := W.go
  apart := W.apart
  done := W.done

/-- what a loop over tuples runs over -/
noncomputable def ItT (prog : Program) (w : World) (hB : Heap) (A : Around) (env : Env) (ρ : Nm) (iter : Expr) (dss : List (List D)) : Prop :=
  ∀ V s (E : Value → Shared → Prop) (Q : Value → Shared → Prop), St w.params hB env ρ V s →
    (∀ I fp wr P T Mid V' s', Ext env V s V' s' → WT prog w A I fp wr dss.length P T Mid → T 0 s'.heap → (∀ b ∈ wr, V' b = none ∧ s.heap.get? b = none) → (∀ i h, T i h → ∀ b ∈ wr, ∃ o, h.get? b = some o) → (∀ b ∈ fp, b ∈ wr ∨ ∃ o, V' b = some o) →
      (∀ i u, i < dss.length → P i u → ∃ ds, dss[i]? = some ds ∧ RepAll w.params V' u ds) → Q (.ref I) s') →
    wpAny (model prog w) A (eval iter env) (fun v s₁ => wpAny (model prog w) A (pyIter v) Q E s₁) E s

inductive ForT (prog : Program) (w : World) (hB : Heap) (A : Around) (env : Env) (ts : List Expr) (body : List Stmt) : Nm → List (Str × Mu) → List (List D) → Out → Prop
  | nil {ρ : Nm} {μ : List (Str × Mu)} : ForT prog w hB A env ts body ρ μ [] (.next ρ μ)
  | next {ρ ρ₁ β : Nm} {μ μ₁ : List (Str × Mu)} {d : List D} {ds : List (List D)} {o : Out} : ts.length = d.length → AsgL prog w hB A env μ ts d β → Ex prog w hB A env (β ++ ρ) μ body (.next ρ₁ μ₁) → ForT prog w hB A env ts body ρ₁ μ₁ ds o → ForT prog w hB A env ts body ρ μ (d :: ds) o

theorem ForT.elim {ts : List Expr} {body : List Stmt} {d : List D} {ds : List (List D)} {o : Out} {G : Prop} (h : ForT prog w hB A env ts body ρ μ (d :: ds) o)
    (fn : ∀ {ρ₁ β μ₁}, ts.length = d.length → AsgL prog w hB A env μ ts d β → Ex prog w hB A env (β ++ ρ) μ body (.next ρ₁ μ₁) → ForT prog w hB A env ts body ρ₁ μ₁ ds o → G) : G := by
  cases h with
  | next l a b c => exact fn l a b c
theorem ForT.isNil {ts : List Expr} {body : List Stmt} {o : Out} (h : ForT prog w hB A env ts body ρ μ [] o) : o = .next ρ μ := by cases h; rfl
theorem Ex1.forT {ts : List Expr} {iter : Expr} {k : Nat} {tp pos : Pos} {body : List Stmt} {dss : List (List D)} {o : Out} (hR : A.handled = none) (hI : ItT prog w hB A env ρ iter dss) (hl : ForT prog w hB A env ts body ρ μ dss o)
    (hlen : (assignEach ts env).length = ts.length := by rfl) (hstar : (assignEach ts env).findIdx? (·.1) = none := by rfl)
    (hs : ∀ x, foldedSetIterable iter env x = pure x := by intro _; rfl) : Ex1 prog w hB A env ρ μ (.For (.Tuple ts k tp) iter body [] pos) o := fun F V s E st => by
  refine wpAny_For (hI V s E _ st.st fun I fp wr P T Mid V₂ s₂ Y W hT hwr hlive hfp hP => ?_) hs
  have st₂ := st.ext Y
  have L : Lp wr fp V₂ T := ⟨W.frame, hfp, hlive⟩
  have hfr : ∀ b ∈ wr, b ∈ F.flatten ∨ s.heap.get? b = none := fun b hb => .inr (hwr b hb).2
  refine codeAny_forLoop_any (ForInv w.params hB env F V s V₂ wr T (fun ρ' μ' i => ForT prog w hB A env ts body ρ' μ' (dss.drop i) o) dss.length) ?_ (dss.length + 1)
    ⟨ρ, μ, F, V₂, 0, st₂, Y.toS, fun _ h => .inl h, Nat.zero_le _, rfl, hl, ⟨fun b hb => ⟨(hwr b hb).1, st.st.fresh (hwr b hb).2, st.fresh (hwr b hb).2⟩, st₂.st.held, V₂.le_refl, hT⟩⟩
  intro k s' hinv
  cases hinv with
  | intro ρ' μ' F' V' i st' x' hF' hi' hk hl' t' =>
  subst hk
  have hfm : ∀ b ∈ wr, ¬ Frm env b := fun b hb => (t'.off b hb).2.1
  by_cases hlt : i < dss.length
  · refine W.item i s' _ _ hlt t'.here fun Tt vals h₁ tk₁ hPu hTup hMid hk₁ => ?_
    refine (hP i vals hlt hPu).elim fun d₁ hd => ?_
    have hl₁ := drop_of hd.1 ▸ hl'
    have st₃ := stm_iter (tk := tk₁) st' t'.off hk₁
    have x₃ := x'.iter hfm hfr hk₁ st₃.st.held
    refine W.go ts _ tp i Tt _ _ _ hMid fun h₂ hT₂ hk₂ => ?_
    have st₄ := stm_iter (tk := tk₁) st₃ t'.off hk₂
    have x₄ := x₃.iter (tk := tk₁) hfm hfr hk₂ st₄.st.held
    have hTup₂ : h₂.IsTuple Tt vals.toArray := let ⟨o, ho, r⟩ := hTup; ⟨o, hk₂ _ o (W.apart i Tt _ hMid) ho, r⟩
    have t₄ : Trk env wr V₂ (T (i + 1)) F' V' { s' with heap := h₂, toks := tk₁ } := ⟨t'.off, st₄.st.held, t'.le, hT₂⟩
    refine hl₁.elim fun hlts ha hb hr => ?_
    refine wpAny_assign_Tuple hR hTup₂ (by rw [hlen, hlts, List.size_toArray, hd.2.length]) hstar fun h₃ hk₃ => ?_
    have y₅ := extS_keep (env := env) (F := F') (s := { s' with heap := h₂, toks := tk₁ }) st₄.st.held (keep_of_extBut hk₃)
    refine ha ρ' F' V' _ vals _ _ (st₄.ext y₅) (hd.2.mono t'.le) fun s₆ x₆ st₆ => ?_
    refine wpAny_mono (hb F' V' s₆ _ st₆) (fun f s₇ ⟨V₇, x₇, hf, F₇, hF₇, st₇⟩ => ?_) fun _ _ e => e
    subst hf
    have x₆' := (x₄.trans hF' (y₅.toS (F := F'))).trans hF' x₆
    exact ⟨dss.length + 1 - (i + 1), loop_less hlt, _, _, F₇, V₇, i + 1, st₇, x₆'.trans hF' x₇, x₆'.from hF' hF₇, hlt, rfl, hr, L.step (L.step (L.step t₄ (y₅.toS (F := F')) fun _ h => .inl h) x₆ fun _ h => .inl h) x₇ hF₇⟩
  · have ho := (List.drop_of_length_le (Nat.not_lt.mp hlt) ▸ hl').isNil
    subst ho
    refine W.done s' _ _ (Nat.le_antisymm hi' (Nat.not_lt.mp hlt) ▸ t'.here) fun h₁ tk₁ hk₁ => ?_
    have st₃ := stm_iter (tk := tk₁) st' t'.off hk₁
    exact wpAny_execs_nil ⟨V', x'.iter hfm hfr hk₁ st₃.st.held, rfl, F', hF', st₃⟩

/-- «enumerate(..)» of a list -/
theorem ItT.enum {np pos : Pos} {e : Expr} {ds : List D} (hR : A.handled = none) (hf : EvV prog w hB A env (.Name "enumerate" np) (.type "enumerate")) (he : Ev prog w hB A env ρ e (.lst ds))
    (hse : starEach [e] env = [(false, eval e env)] := by rfl) : ItT prog w hB A env ρ (.Call (.Name "enumerate" np) [e] [] pos) ((List.range ds.length).zipWith (fun (i : Nat) d => [D.int (Int.ofNat i), d]) ds) := fun V s E Q st hQ => by
  refine wpAny_Call_NameR (hf V s ρ E _ st ?_)
  refine callWith_ev (first := []) st kept_type (EvL.cons he .nil hse) (fun vs V₁ s₁ x₁ r₁ => ?_) hse (by rfl)
  refine RepAll.consE (fun r₁ r₂ => ?_) r₁
  (first | refine RepAll.nilE ?_ r₂ | refine Rep.intE (fun _ => ?_) r₂ | refine Rep.strE (fun _ => ?_) r₂ | refine Rep.boolE ?_ r₂ | cases r₂)
  refine Rep.lstE (fun {a us k} ev rr => ?_) r₁
  have hl := isList_of x₁.held ev
  have halt : a < s₁.heap.objs.size := by obtain ⟨o, ho, _⟩ := hl; exact Heap.lt_size ho
  refine call_enumerate_list hl fun h' hen hit hz hk => ?_
  have y := (ExtF.of_keep (t := s₁.toks) x₁.held hk).toExt env
  have W := WT.of (WalksT.enumerate (prog := prog) (w := w) hR (s₁.heap.objs.size + 1) s₁.heap.objs.size a (Nat.ne_of_gt (Nat.lt_succ_self _)) (Nat.ne_of_lt (Nat.lt_succ_of_lt halt)) (Nat.ne_of_lt halt) us.toArray)
  refine wpAny_pyIter_enum hen ?_
  have hlen : us.toArray.size = ((List.range ds.length).zipWith (fun (i : Nat) d => [D.int (Int.ofNat i), d]) ds).length := by rw [List.size_toArray, rr.length]; simp
  rw [hlen] at W
  have hback : ∀ b, s₁.heap.objs.size ≤ b → s.heap.get? b = none := fun b hb => get_none_back (fun o q => x₁.someAt b o q) (get_size_none _ hb)
  refine hQ _ _ _ _ _ _ V₁ _ (x₁.trans y) W ⟨⟨_, hen⟩, hit, by obtain ⟨o, ho, r⟩ := hl; exact ⟨o, hk _ o ho, r⟩⟩ (fun b hb => ?_) (fun i h ⟨⟨old, h1⟩, ⟨o, h2, _⟩, _⟩ b hb => ?_) (fun b hb => ?_) fun i u hi ⟨t, x, hx, hu⟩ => ?_
  · have hge : s₁.heap.objs.size ≤ b := by
      rcases List.mem_cons.mp hb with rfl | hb
      · exact Nat.le_succ _
      · rw [List.mem_singleton.mp hb]; exact Nat.le_refl _
    exact ⟨Held.fresh x₁.held hge, hback b hge⟩
  · rcases List.mem_cons.mp hb with rfl | hb
    · exact ⟨_, h1⟩
    · rw [List.mem_singleton.mp hb]; exact ⟨_, h2⟩
  · rcases List.mem_cons.mp hb with rfl | hb
    · exact .inl (.head _)
    · rcases List.mem_cons.mp hb with rfl | hb
      · exact .inl (.tail _ (.head _))
      · rw [List.mem_singleton.mp hb]; exact .inr ⟨_, ev⟩
  · have hx' : us[i]? = some x := by simpa using hx
    obtain ⟨d, hd, rd⟩ := rr.get' hx'
    have hu' : u = [.int i t, x] := by simpa using congrArg Array.toList hu
    subst hu'
    have hi' : i < ds.length := (List.getElem?_eq_some_iff.mp hd).1
    refine ⟨[.int i, d], ?_, .cons (.int _ _) (.cons rd .nil)⟩
    rw [List.getElem?_zipWith, hd]
    simp [hi']

/-- «d.items()» -/
theorem ItT.items {o : Expr} {ap pos : Pos} {kvs : List (Str × Int)} (hR : A.handled = none) (ho : Ev prog w hB A env ρ o (.dct kvs)) (hbase : attributeBase o "items" env (eval o env) = eval o env := by rfl) (hline : (ap.endLine == pos.line) = true := by rfl) :
    ItT prog w hB A env ρ (.Call (.Attribute o "items" ap) [] [] pos) (kvs.map fun p => [.str p.1, .int p.2]) := fun V s E Q st hQ => by
  refine wpAny_Call_method (T := "dict") (id := "dict.items") hbase rfl hline F.plainAttrs_dict F.slot_dict_items F.type_dict_items (wpAny_mono (ho V s E st) (fun v s₁ ⟨V₁, x₁, r₁⟩ => ?_) fun _ _ e => e)
  refine Rep.dctE (fun {d es n} z ev de hn => ?_) r₁
  obtain ⟨kv, hd, hv⟩ := de.dictAt (prog := prog) (x₁.held _ _ ev) hn
  refine ⟨hd.dictOf.typeIs, hd.dictOf.mapOf.noDict, ?_⟩
  show wpAny _ _ (callWith pos (.builtin "dict.items") [.ref d] [] []) _ E s₁
  refine method_meetsIn F.slot_dict_items F.entry_dict_items rfl (PySem.evalArgs_none ⟨rfl, hd.dictOf.typeIs, F.args_dict_items_1 _, _, meets_dict_items (strKind prog w) d z, ⟨kv, hd.dictOf⟩, ?_⟩)
  have hdlt : d < s₁.heap.objs.size := hd.lt_size
  have y₁ := ExtF.of_keep (t := s₁.toks) x₁.held (h' := s₁.heap.push { cls := .type "dict_items", data := .fields #[.ref d] }) fun a o e => Heap.get?_push_of_some _ e
  show wpAny _ _ (pyIter (.ref s₁.heap.objs.size)) Q E _
  refine wpAny_pyIter_items (knd := strKind prog w) (d := d) (kvs := kv) (ep := n) ⟨_, Heap.get?_push_size _ rfl, rfl, rfl⟩ (hd.push _) ?_
  have y₂ := ExtF.of_keep (t := s₁.toks) y₁.held (h' := (s₁.heap.push { cls := .type "dict_items", data := .fields #[.ref d] }).push { cls := .type "dict_itemiterator", data := .fields #[.none, .bool false, .ref d, .int 0 0, .int kv.length 0, .int n 0, .none, .none] }) fun a o e => Heap.get?_push_of_some _ e
  have hsz : (s₁.heap.push { cls := .type "dict_items", data := .fields #[.ref d] }).objs.size = s₁.heap.objs.size + 1 := Heap.size_push ..
  have hit := Heap.get?_push_size (s₁.heap.push { cls := .type "dict_items", data := .fields #[.ref d] }) (o := { cls := .type "dict_itemiterator", data := .fields #[.none, .bool false, .ref d, .int 0 0, .int kv.length 0, .int n 0, .none, .none] }) rfl
  have W := WT.items (prog := prog) (w := w) hR (kv := kv) (I := (s₁.heap.push { cls := .type "dict_items", data := .fields #[.ref d] }).objs.size) (d := d) (ep := n) (by rw [hsz]; exact Nat.ne_of_lt (Nat.lt_succ_of_lt hdlt))
  have hlen : kv.length = (kvs.map fun p => [D.str p.1, D.int p.2]).length := by rw [hv.length]; simp
  rw [hlen] at W
  refine hQ _ _ _ _ _ _ V₁ _ (x₁.trans ((y₁.trans y₂).toExt _)) W ⟨⟨_, _, by rw [← hlen]; exact hit⟩, (hd.push _).push _⟩ (fun b hb => ?_) (fun i h ⟨⟨_, _, h1⟩, _⟩ b hb => by rw [List.mem_singleton.mp hb]; exact ⟨_, h1⟩) (fun b hb => ?_) fun i u hi ⟨k, v, key, hx, hkey, hu⟩ => ?_
  · rw [List.mem_singleton.mp hb, hsz]
    exact ⟨Held.fresh x₁.held (Nat.le_succ _), get_none_back (fun o q => x₁.someAt _ o q) (get_size_none _ (Nat.le_succ _))⟩
  · rcases List.mem_cons.mp hb with rfl | hb
    · exact .inl (.head _)
    · rw [List.mem_singleton.mp hb]; exact .inr ⟨_, ev⟩
  · subst hu
    have : ∀ {kv : List (Str × Value)} {kvs : List (Str × Int)}, DVal kv kvs → ∀ {i : Nat}, kv[i]? = some (k, v) → ∃ j t, kvs[i]? = some (k, j) ∧ v = .int j t := by
      intro kv kvs h
      induction h with
      | nil => intro i q; simp at q
      | cons _ ih =>
        intro i q
        cases i with
        | zero => simp at q; obtain ⟨rfl, rfl⟩ := q; exact ⟨_, _, rfl, rfl⟩
        | succ i => simpa using ih (by simpa using q)
    obtain ⟨j, t, h1, rfl⟩ := this hv hx
    obtain ⟨t', rfl⟩ := Value.isStrOf_shape hkey
    refine ⟨[.str k, .int j], by simp [h1], .cons (.str _ _) (.cons (.int _ _) .nil)⟩

theorem Itr.dct (hh : A.handled = none) {kvs : List (Str × Int)} : Itr prog w hB A (.dct kvs) (strsD (kvs.map (·.1))) := fun V s v E Q hV r hQ => by
  refine Rep.dctE (fun {a es n} z e de hn => ?_) r
  obtain ⟨kv, hd, hv⟩ := de.dictAt (prog := prog) (hV _ _ e) hn
  have hne : a ≠ s.heap.objs.size := Nat.ne_of_lt hd.lt_size
  refine wpAny_pyIter_dict z hd ?_
  have hW := Walks.dictKeys (prog := prog) (w := w) (knd := strKind prog w) hh s.heap.objs.size a hne kv n
  have hz : kv.length = (strsD (kvs.map (·.1))).length := by rw [hv.length]; simp [strsD]
  have x := ExtF.of_keep (t := s.toks) hV (h' := s.heap.push { cls := .type "dict_keyiterator", data := .fields #[.ref a, .int 0 0, .int kv.length 0, .int n 0] }) fun a o e => Heap.get?_push_of_some _ e
  rw [hz] at hW
  refine hQ _ _ _ _ _ V _ x hW ⟨?_, hd.push _⟩ (fun b hb => ?_) (fun i h hT b hb => by rw [List.mem_singleton.mp hb]; obtain ⟨⟨o, ho, _⟩, _⟩ := hT; exact ⟨o, ho⟩) (fun b hb => ?_) (fun i u hi hP => ?_) fun elts k pos i s u Q E hT hQ => ?_
  · rw [← hz]; exact ⟨_, Heap.get?_push_size _ rfl, rfl, rfl⟩
  · rw [List.mem_singleton.mp hb]; exact ⟨hV.fresh (Nat.le_refl _), get_size_none _ (Nat.le_refl _)⟩
  · rcases List.mem_cons.mp hb with rfl | hb
    · exact .inl (.head _)
    · rw [List.mem_singleton.mp hb]; exact .inr ⟨_, e⟩
  · obtain ⟨k, y, hk, hkey⟩ := hP
    obtain ⟨t', rfl⟩ := Value.isStrOf_shape hkey
    have : (kv.map (·.1))[i]? = some k := by simp [hk]
    rw [hv.keys] at this
    refine ⟨.str k, ?_, .str _ _⟩
    unfold strsD
    rw [List.getElem?_map, this]; rfl
  · exact go_plain hT.1 (by decide) hQ

noncomputable def signsD (x : Str) : List D := x.cps.toList.map fun c => .str ⟨#[c]⟩
theorem Itr.str (hh : A.handled = none) {x : Str} (ha : x.cps.all (· < 128) = true) : Itr prog w hB A (.str x) (signsD x) := fun V s v E Q hV r hQ => by
  refine Rep.strE (fun t => ?_) r
  refine wpAny_pyIter_ascii ha ?_
  have hW := Walks.strAscii (prog := prog) (w := w) hh s.heap.objs.size x t
  have hz : x.cps.size = (signsD x).length := by simp [signsD]
  rw [hz] at hW
  refine hQ _ _ _ _ _ V _ (ExtF.of_keep (t := s.toks) hV fun a o e => Heap.get?_push_of_some _ e) hW ⟨_, Heap.get?_push_size _ rfl, rfl, rfl⟩ (fun b hb => ?_) (fun i h hT b hb => by rw [List.mem_singleton.mp hb]; obtain ⟨o, ho, _⟩ := hT; exact ⟨o, ho⟩) (fun b hb => .inl hb) (fun i u hi hP => ?_) fun elts k pos i s u Q E hT hQ => ?_
  · rw [List.mem_singleton.mp hb]; exact ⟨hV.fresh (Nat.le_refl _), get_size_none _ (Nat.le_refl _)⟩
  · obtain ⟨c, t', hc, rfl⟩ := hP
    refine ⟨.str ⟨#[c]⟩, ?_, .str _ _⟩
    unfold signsD
    rw [List.getElem?_map, Array.getElem?_toList, hc]; rfl
  · exact go_plain hT (by decide) hQ
end
end Mine
namespace Mine
section
variable {prog : Program} {w : World} {hB : Heap} {A : Around} {env : Env} {ρ : Nm} {μ : List (Str × Mu)}

/-- a method of a built-in type, with arguments -/
theorem Ev.meth {o : Expr} {name : Str} {ap pos : Pos} {e : Expr} {es : List Expr} {T id : String} {d₀ d : D} {ds : List D} {n : Nat} (pa : PlainAttrs T) (slot : Slot T name id) (hty : typeOf (.builtin id) = pure (.type "method_descriptor"))
    (ht : ∀ (V : Vw) (s : Shared) v, Held V s → Rep w.params V v d₀ → s.TypeIs v T ∧ ∀ a, v = .ref a → ∃ ob, s.heap.get? a = some ob ∧ ob.dict = none)
    (ho : Ev prog w hB A env ρ o d₀) (ha : EvL prog w hB A env ρ pos (e :: es) ds) (hR : Room n A) (hc : Fn prog w hB n (.builtin id) (d₀ :: ds) d)
    (hbase : attributeBase o name env (eval o env) = eval o env := by rfl) (hline : (ap.endLine == pos.line) = true := by rfl)
    (hfew : ((backTo pos (starEach (e :: es) env)).all (fun x => !x.1) && (backToKw pos (keywordEach [] env)).all (fun x => x.1.isSome)
      && decide ((e :: es).length + ([] : List Keyword).length + (if ([] : List Keyword).isEmpty then 0 else 1) < 30)) = true := by rfl)
    (he : starEach (e :: es) env = (false, eval e env) :: starEach es env := by rfl) (hplain : (backTo pos (starEach es env)).any (·.1) = false := by rfl) :
    Ev prog w hB A env ρ (.Call (.Attribute o name ap) (e :: es) [] pos) d := fun V s E st => by
  refine wpAny_Call_method (T := T) (id := id) hbase hfew hline pa slot hty (wpAny_mono (ho V s E st) (fun v s₁ ⟨V₁, x₁, r₁⟩ => ?_) fun _ _ e => e)
  have st₁ := st.ext x₁
  obtain ⟨h1, h2⟩ := ht V₁ s₁ v st₁.held r₁
  refine ⟨h1, h2, callWith_ev (first := [v]) st₁ kept_blt ha (fun vs V₂ s₂ x₂ r₂ => ?_) he hplain⟩
  have st₂ := st₁.ext x₂
  exact wpAny_mono (hc A V₂ s₂ (v :: vs) E hR st₂.low st₂.base st₂.held (.cons (r₁.mono x₂.le) r₂)) (fun v s' h => postF_trans (x₁.trans x₂) h) fun _ _ e => e

theorem ht_lst {ds : List D} (V : Vw) (s : Shared) (v : Value) (hV : Held V s) (r : Rep w.params V v (.lst ds)) : s.TypeIs v "list" ∧ ∀ a, v = .ref a → ∃ ob, s.heap.get? a = some ob ∧ ob.dict = none := by
  refine Rep.lstE (fun e rr => ?_) r
  exact ⟨⟨_, hV _ _ e, rfl⟩, fun a q => by cases q; exact ⟨_, hV _ _ e, rfl⟩⟩
theorem ht_dct {kvs : List (Str × Int)} (V : Vw) (s : Shared) (v : Value) (hV : Held V s) (r : Rep w.params V v (.dct kvs)) : s.TypeIs v "dict" ∧ ∀ a, v = .ref a → ∃ ob, s.heap.get? a = some ob ∧ ob.dict = none := by
  refine Rep.dctE (fun z e _ _ => ?_) r
  exact ⟨⟨_, hV _ _ e, rfl⟩, fun a q => by cases q; exact ⟨_, hV _ _ e, rfl⟩⟩

theorem fn_count {n : Nat} {ns : List Int} {k : Int} : Fn prog w hB n (.builtin "list.count") [.lst (intsD ns), .int k] (.int (ns.count k : Nat)) := fun A V s vs E hR hlow hb hV r => by
  refine RepAll.consE (fun r₁ r₂ => ?_) r
  refine RepAll.consE (fun r₂ r₃ => ?_) r₂
  (first | refine RepAll.nilE ?_ r₃ | refine Rep.intE (fun _ => ?_) r₃ | refine Rep.strE (fun _ => ?_) r₃ | refine Rep.boolE ?_ r₃ | cases r₃)
  (first | refine RepAll.nilE ?_ r₂ | refine Rep.intE (fun _ => ?_) r₂ | refine Rep.strE (fun _ => ?_) r₂ | refine Rep.boolE ?_ r₂ | cases r₂)
  refine Rep.lstE (fun e rr => ?_) r₁
  exact count_list_ints (isList_of hV e) rr.ints ⟨V, ExtF.toks hV _, .int _ _⟩

theorem fn_index_int {n : Nat} {ns : List Int} {k : Int} (hk : k ∈ ns) (hz : ns.length ≤ 1000) : Fn prog w hB n (.builtin "list.index") [.lst (intsD ns), .int k] (.int (ns.idxOf k : Nat)) := fun A V s vs E hR hlow hb hV r => by
  refine RepAll.consE (fun r₁ r₂ => ?_) r
  refine RepAll.consE (fun r₂ r₃ => ?_) r₂
  (first | refine RepAll.nilE ?_ r₃ | refine Rep.intE (fun _ => ?_) r₃ | refine Rep.strE (fun _ => ?_) r₃ | refine Rep.boolE ?_ r₃ | cases r₃)
  refine Rep.intE (fun t => ?_) r₂
  refine Rep.lstE (fun {a us m} e rr => ?_) r₁
  have hi := rr.ints
  have hlen := hi.length
  have hj : ns.idxOf k < ns.length := List.idxOf_lt_length_iff.mpr hk
  refine call_meets PySem.F.slot_list_index ⟨_, hV _ _ e, rfl⟩ PySem.F.entry_list_index (PySem.F.args_list_index_2 _ _)
    (SeqAt.list_indexAt a us.toArray m none #[] (.int k t) (isInt k) (ns.idxOf k) (by simpa [hlen] using hj) (by (first | lia | omega)) ?_ ?_) ⟨hV _ _ e, fun y hy => (eq_isInt k t hi y (by simpa using hy)).at _ _, ⟨V, ExtF.toks hV _, .int _ _⟩⟩
  · show isInt k us[ns.idxOf k] = true
    rw [isInt_at k hi _ (by (first | lia | omega)) hj]
    simpa using List.getElem_idxOf hj
  · intro j hjs hlt
    show isInt k us[j] = false
    rw [isInt_at k hi j (by simpa using hjs) (by (first | lia | omega))]
    exact ne_of_lt_idxOf hlt _

theorem RepAll.strs {P : Params} {V : Vw} : ∀ {xs : List Str} {vs : List Value}, RepAll P V vs (strsD xs) → StrsAre vs xs
  | [], _, h => by cases (show RepAll P V _ [] from h) using RepAll.nilE; exact .nil
  | x :: xs, _, h => by
    cases (show RepAll P V _ (D.str x :: strsD xs) from h) using RepAll.consE with
    | cons e r => cases e using Rep.strE with | str t => exact .cons x t (RepAll.strs r)

theorem fn_index_str {n : Nat} {ns : List Str} {k : Str} (hk : k ∈ ns) (hz : ns.length ≤ 1000) : Fn prog w hB n (.builtin "list.index") [.lst (strsD ns), .str k] (.int (ns.idxOf k : Nat)) := fun A V s vs E hR hlow hb hV r => by
  refine RepAll.consE (fun r₁ r₂ => ?_) r
  refine RepAll.consE (fun r₂ r₃ => ?_) r₂
  (first | refine RepAll.nilE ?_ r₃ | refine Rep.intE (fun _ => ?_) r₃ | refine Rep.strE (fun _ => ?_) r₃ | refine Rep.boolE ?_ r₃ | cases r₃)
  refine Rep.strE (fun t => ?_) r₂
  refine Rep.lstE (fun {a us m} e rr => ?_) r₁
  have hi := rr.strs
  have hlen : us.length = ns.length := by have := rr.length; simpa [strsD] using this
  have hj : ns.idxOf k < ns.length := List.idxOf_lt_length_iff.mpr hk
  have hat : ∀ j (h1 : j < us.length) (h2 : j < ns.length), isStrOf k us[j] = (ns[j] == k) := by
    intro j h1 h2
    obtain ⟨d, hd, rd⟩ := rr.get' (List.getElem?_eq_getElem h1)
    unfold strsD at hd
    rw [List.getElem?_map, List.getElem?_eq_getElem h2] at hd
    cases hd
    generalize us[j] = u at rd
    (first | refine RepAll.nilE ?_ rd | refine Rep.intE (fun _ => ?_) rd | refine Rep.strE (fun _ => ?_) rd | refine Rep.boolE ?_ rd | cases rd)
    rfl
  refine call_meets PySem.F.slot_list_index ⟨_, hV _ _ e, rfl⟩ PySem.F.entry_list_index (PySem.F.args_list_index_2 _ _)
    (SeqAt.list_indexAt a us.toArray m none #[] (.str k t) (isStrOf k) (ns.idxOf k) (by simpa [hlen] using hj) (by (first | lia | omega)) ?_ ?_) ⟨hV _ _ e, fun y hy => (eq_isStrOf k t hi y (by simpa using hy)).at _ _, ⟨V, ExtF.toks hV _, .int _ _⟩⟩
  · show isStrOf k us[ns.idxOf k] = true
    rw [hat _ (by (first | lia | omega)) hj]
    simpa using List.getElem_idxOf hj
  · intro j hjs hlt
    show isStrOf k us[j] = false
    rw [hat j (by simpa using hjs) (by (first | lia | omega))]
    exact List.not_of_lt_findIdx (p := (· == k)) hlt

theorem fn_dict_get {n : Nat} {kvs : List (Str × Int)} {k : Str} {i : Int} : Fn prog w hB n (.builtin "dict.get") [.dct kvs, .str k, .int i] (.int ((dget kvs k).getD i)) := fun A V s vs E hR hlow hb hV r => by
  refine RepAll.consE (fun r₁ r₂ => ?_) r
  refine RepAll.consE (fun r₂ r₃ => ?_) r₂
  refine RepAll.consE (fun r₃ r₄ => ?_) r₃
  (first | refine RepAll.nilE ?_ r₄ | refine Rep.intE (fun _ => ?_) r₄ | refine Rep.strE (fun _ => ?_) r₄ | refine Rep.boolE ?_ r₄ | cases r₄)
  refine Rep.strE (fun t => ?_) r₂
  refine Rep.intE (fun u => ?_) r₃
  refine Rep.dctE (fun {a es m} z e de hn => ?_) r₁
  obtain ⟨kv, hd, hv⟩ := de.dictAt (prog := prog) (hV _ _ e) hn
  refine call_meetsIn F.slot_dict_get hd.dictOf.typeIs F.entry_dict_get (F.args_dict_get_3 _ _ _) (meets_dict_get_default (strKind prog w) a (strKind_is prog w k t) z (.int i u)) ⟨_, hd.dictOf.mapOf, ?_⟩
  rcases valueAt_dget hv k with ⟨h1, h2⟩ | ⟨i', u', h1, h2⟩
  · rw [h1]
    show PostF _ _ _ _ ((valueAt kv k).getD _) _
    rw [h2]; exact ⟨V, ExtF.toks hV _, .int _ _⟩
  · rw [h1]
    show PostF _ _ _ _ ((valueAt kv k).getD _) _
    rw [h2]; exact ⟨V, ExtF.toks hV _, .int _ _⟩

theorem op_in_dct {kvs : List (Str × Int)} {k : Str} : Op2 prog w hB A (compareOp .In) (.str k) (.dct kvs) (.bool (dget kvs k).isSome) := fun V s v₁ v₂ E _ hV r₁ r₂ => by
  refine Rep.strE (fun t => ?_) r₁
  refine Rep.dctE (fun {a es m} z e de hn => ?_) r₂
  obtain ⟨kv, hd, hv⟩ := de.dictAt (prog := prog) (hV _ _ e) hn
  refine wpAny_in_of (strKind_is prog w k t) z hd.dictOf.mapOf ?_
  have : (valueAt kv k).isSome = (dget kvs k).isSome := by
    rcases valueAt_dget hv k with ⟨h1, h2⟩ | ⟨i', u', h1, h2⟩ <;> rw [h1, h2] <;> rfl
  show PostF _ _ _ _ (.bool (valueAt kv k).isSome) _
  rw [this]; exact ⟨V, ExtF.toks hV _, .bool _⟩

theorem op_item_dct {value slice : Expr} {kvs : List (Str × Int)} {k : Str} {i : Int} (hg : dget kvs k = some i)
    (hs : ∀ o i, subscripted slice false o i = operate [o, i] (getItem o i) := by intro _ _; with_unfolding_all rfl) : Op2 prog w hB A (subscriptTail value slice) (.dct kvs) (.str k) (.int i) := fun V s v₁ v₂ E _ hV r₁ r₂ => by
  refine Rep.strE (fun t => ?_) r₂
  refine Rep.dctE (fun {a es m} z e de hn => ?_) r₁
  refine tail_any ⟨_, hV _ _ e, rfl⟩ slot_dict_getitem.lookup (getItem_dct (hV _ _ e) de hn hg fun u => ⟨V, ExtF.toks hV _, .int _ _⟩) (hs _ _)

theorem Ev.dct0 (hlow : 1 < hB.objs.size) {pos : Pos} : Ev prog w hB A env ρ (.Dict [] [] pos) (.dct []) := fun V s E st => by
  refine wpAny_Dict_empty ⟨V.put s.heap.objs.size (dictOf [] 0), (ExtF.alloc st.held (dictOf [] 0) rfl s.toks).toExt _, .dct (es := []) (n := 0) ?_ (Vw.put_self ..) .nil (by simp)⟩
  exact beq_eq_false_iff_ne.mpr (Nat.ne_of_gt (Nat.lt_of_lt_of_le hlow st.low))

theorem Ev.dct1 (hlow : 1 < hB.objs.size) {pos : Pos} {k v : Expr} {x : Str} {i : Int} (hk : Ev prog w hB A env ρ k (.str x)) (hv : Ev prog w hB A env ρ v (.int i)) : Ev prog w hB A env ρ (.Dict [some k] [v] pos) (.dct [(x, i)]) := fun V s E st => by
  refine wpAny_Dict_pairs (knd := strKind prog w) (pairs := [(eval k env, do let x ← eval v env; standAt pos; pure x)]) rfl (by simp) (by simp) ?_
  have y₀ := (ExtF.of_keep (t := s.toks) st.held (h' := s.heap.push { cls := .type "dict", data := .dict #[] }) fun a o e => Heap.get?_push_of_some _ e).toExt env
  have st₀ := st.ext y₀
  have hlt := st.low
  have hnew := get_size_none s.heap (Nat.le_refl _)
  have hL : s.heap.objs.size ≠ env.locals := fun q => by obtain ⟨m, o, _, _, ho, _⟩ := st.ns; rw [← q, hnew] at ho; cases ho
  have hLf : env.frame ≠ some s.heap.objs.size := fun q => by obtain ⟨_, m, o, _, _, ho, _⟩ := st.frm _ q; exact no hnew ho
  refine evalPairs_cons (wpAny_mono (hk V _ E st₀) (fun kv s₁ ⟨V₁, y₁, r₁⟩ => ?_) fun _ _ e => e)
  have st₁ := st₀.ext y₁
  refine wpAny_bind (wpAny_mono (hv V₁ s₁ E st₁) (fun vv s₂ ⟨V₂, y₂, r₂⟩ => wpAny_bind (wpAny_standAt (wpAny_pure (evalPairs_nil ?_)))) fun _ _ e => e)
  refine Rep.strE (fun t => ?_) r₁
  refine Rep.intE (fun u => ?_) r₂
  have Y := (y₀.trans y₁).trans y₂
  have hd₂ : s₂.heap.get? s.heap.objs.size = some (dictOf [] 0) := (y₁.trans y₂).keep _ _ hL hLf (Heap.get?_push_size _ rfl)
  obtain ⟨kv, hd, hv'⟩ := DEnt.dictAt (prog := prog) hd₂ (.nil (P := w.params)) (by simp)
  cases hv'
  refine ⟨[(x, .int i u)], ⟨strKind_is prog w x t, rfl, trivial⟩, hd.dictOf, fun h' hd' hs' => ?_⟩
  obtain ⟨es, n, e', de, hn⟩ := dictOf_back (kvs := [(x, i)]) hd' (.cons .nil)
  have hVn : V₂ s.heap.objs.size = none := by
    cases e : V₂ s.heap.objs.size with
    | none => rfl
    | some o => rcases (y₁.trans y₂).new _ o e with q | q
                · rw [Held.fresh st.held (Nat.le_refl _)] at q; cases q
                · rw [Heap.get?_push_size _ rfl] at q; cases q
  have hV₂ : ∀ b o, V₂ b = some o → h'.get? b = some o := fun b o e => hs'.extBut b o (ne_none hVn e) (y₂.held b o e)
  refine ⟨V₂.put s.heap.objs.size (dictOf es n), ⟨?_, fun a o ne nf e => ?_, fun o e => ?_, fun m hm => ?_, fun f o hf e => ?_, fun f m hf hm => ?_, fun a o e => ?_, fun a o e => ?_, fun a o e => ?_⟩, .dct ?_ (Vw.put_self ..) de hn⟩
  · obtain ⟨h1, t1, e1⟩ := Y.same; exact ⟨h', _, by rw [e1]⟩
  · exact hs'.extBut a o (ne_none hnew e) (Y.keep a o ne nf e)
  · obtain ⟨o', e'⟩ := Y.loc o e; exact ⟨o', hs'.extBut _ o' (Ne.symm hL) e'⟩
  · exact (Y.ns m hm).sameBut hs' (Ne.symm hL)
  · obtain ⟨o', e'⟩ := Y.locF f o hf e; exact ⟨o', hs'.extBut _ o' (fun q => hLf (q ▸ hf)) e'⟩
  · exact (Y.nsF f m hf hm).sameBut hs' (fun q => hLf (q ▸ hf))
  · exact Vw.le_put hVn a o (Y.le a o e)
  · by_cases q : a = s.heap.objs.size
    · exact .inr (q ▸ hnew)
    · rw [V₂.put_ne _ q] at e; exact Y.new a o e
  · by_cases q : a = s.heap.objs.size
    · subst q; rw [V₂.put_self] at e; cases e; exact e'
    · rw [V₂.put_ne _ q] at e; exact hV₂ a o e
  · exact beq_eq_false_iff_ne.mpr (Nat.ne_of_gt (Nat.lt_of_lt_of_le hlow st.low))
end
end Mine
namespace Mine
@[elab_as_elim] theorem Rep.cmpE {P : Params} {V : Vw} {sel : List (Int × Int)} {motive : ∀ v, Rep P V v (.cmp sel) → Prop} (cmp : ∀ {a dx : Addr} {hs : Int} {t : Tok} {u : Value} {n : Nat} (e : V a = some (instObj tcA dx)) (f : V dx = some (dictOf [⟨hs, .str (Str.ofString "comp_select_list") t, u⟩] n)) (r : Rep P V u (.lst (sel.map fun p => .tup [.int p.1, .int p.2]))), motive (.ref a) (.cmp e f r)) {v : Value} (t : Rep P V v (.cmp sel)) : motive v t := by
  cases t with
  | cmp e f r => exact cmp e f r
section
variable {prog : Program} {w : World} {hB : Heap} {A : Around} {env : Env} {ρ : Nm}

theorem tc_makes (P : Params) : makesIn (KK P) tcA = true := by with_unfolding_all rfl
theorem tc_init (P : Params) : findIn (KK P) (.ref tcA) "__init__" = some (some (.ref 28)) := by with_unfolding_all rfl
theorem tc_initF (P : Params) : typeIn (KK P) (.ref 28) = some (.type "function") := by with_unfolding_all rfl
theorem tc_over (P : Params) : plainOver (KK P) tcA = true := by with_unfolding_all rfl
theorem tc_taker (P : Params) : takerIn (KK P) tcA "comp_select_list" = some none := by with_unfolding_all rfl
theorem tc_hasDict (P : Params) : hasDictIn (KK P) tcA = true := by with_unfolding_all rfl
theorem tc_get1 (P : Params) : plainGet (KK P) tcA "comp_select_list" = true := by with_unfolding_all rfl
theorem tc_get2 (P : Params) : plainGet (KK P) tcA "compare" = true := by with_unfolding_all rfl
theorem tc_setattr (P : Params) : findIn (KK P) (.ref tcA) "__setattr__" = some (some (.builtin "object.__setattr__")) := by with_unfolding_all rfl
theorem tc_attr (P : Params) : findIn (KK P) (.ref tcA) "comp_select_list" = some none := by with_unfolding_all rfl
theorem tc_compare (P : Params) : findIn (KK P) (.ref tcA) "compare" = some (some (.ref 35)) := by with_unfolding_all rfl
theorem tc_compareF (P : Params) : isFn (KK P) (.ref 35) = true := by with_unfolding_all rfl

noncomputable def selD (sel : List (Int × Int)) : D := .lst (sel.map fun p => .tup [.int p.1, .int p.2])

/-- an object of a class is made -/
theorem fn_TupleComp (G : Gd w.params hB) {n : Nat} {sel : List (Int × Int)} : Fn prog w hB (n + 2) (.ref tcA) [selD sel] (.cmp sel) := fun A V s vs E hR hlow hb hV r => by
  refine RepAll.consE (fun {v _} r₁ r₂ => ?_) r
  (first | refine RepAll.nilE ?_ r₂ | refine Rep.intE (fun _ => ?_) r₂ | refine Rep.strE (fun _ => ?_) r₂ | refine Rep.boolE ?_ r₂ | cases r₂)
  have hst : ∀ a o, hB.get? a = some o → s.heap.get? a = some o := fun a o e => hV a o (hb a o e)
  have X := G.kin.keeps hst
  obtain ⟨h, g, d, t, os⟩ := s
  refine wpAny_call (make_core (makes_of X (tc_makes _)) (looks_findIn X (tc_init _)) (fun self => bind_fn X self (tc_initF _)) (.inl rfl) ?_)
  have k2 : ∀ b o, h.get? b = some o → ((h.push emptyDict).push (instObj tcA h.objs.size)).get? b = some o := fun b o e => Heap.get?_push_of_some _ (Heap.get?_push_of_some _ e)
  have X2 := X.keeps k2
  have hz1 : (h.push emptyDict).objs.size = h.objs.size + 1 := Heap.size_push ..
  have hz2 : ((h.push emptyDict).push (instObj tcA h.objs.size)).objs.size = h.objs.size + 2 := by rw [Heap.size_push, hz1]
  have hx : ((h.push emptyDict).push (instObj tcA h.objs.size)).get? (h.objs.size + 1) = some (instObj tcA h.objs.size) := by
    have := Heap.get?_push_size (h.push emptyDict) (o := instObj tcA h.objs.size) rfl
    rwa [hz1] at this
  have hdx : ((h.push emptyDict).push (instObj tcA h.objs.size)).get? h.objs.size = some emptyDict := Heap.get?_push_of_some _ (Heap.get?_push_size _ rfl)
  generalize hH : (h.push emptyDict).push (instObj tcA h.objs.size) = H at *
  refine codeAny_call_cells (binds := [("self", .ref (h.objs.size + 1)), ("comp_select_list", v)]) (by have := hR.depth; rw [depth_under_make]; (first | lia | omega)) (X2 28 _ rfl) rfl ((G.nolim.keeps hst).keeps k2) (codeRec_of X2 (by with_unfolding_all rfl)) rfl (by with_unfolding_all rfl) rfl
    (fun x hx => .inl (by
      rcases List.mem_cons.mp hx with rfl | hx
      · rfl
      · rw [List.mem_singleton.mp hx]; rfl)) (fun s₁ Y => ?_)
  generalize hL : H.objs.size = L at *
  have hns := Y.toInCall.ns
  have hF : Fr h L s₁.heap _ := ⟨hns, fun b o e => Y.toInCall.keep b o (k2 b o e), by (first | lia | omega)⟩
  have hN : News h L s₁.heap [(h.objs.size + 1, instObj tcA h.objs.size), (h.objs.size, emptyDict)] := fun p hp => by
    rcases List.mem_cons.mp hp with rfl | hp
    · exact ⟨Y.toInCall.keep _ _ hx, Nat.ne_of_lt (by show h.objs.size + 1 < L; (first | lia | omega)), get_size_none _ (Nat.le_succ _)⟩
    · rw [List.mem_singleton.mp hp]
      exact ⟨Y.toInCall.keep _ _ hdx, Nat.ne_of_lt (by show h.objs.size < L; (first | lia | omega)), get_size_none _ (Nat.le_refl _)⟩
  refine wpAny_execs_cons (plainObj_wpAny_Assign_Attribute (NameLC Y rfl rfl (v := v) rfl (NameLC Y rfl rfl (v := .ref (h.objs.size + 1)) rfl ?_ rfl) rfl))
  refine set_dict (es := []) (n := 0) (dx := h.objs.size) hF X hN (InstAt.of_news hN (.head _) (.tail _ (.head _))) rfl (tc_setattr _) (tc_over _) (tc_taker _) (tc_hasDict _) rfl rfl
    (.tail (by show h.objs.size + 1 ≠ h.objs.size; (first | lia | omega)) (.head fun _ h => nomatch h)) (by with_unfolding_all exact Nat.le_of_ble_eq_true rfl) fun h' F' N' => wpAny_execs_nil ?_
  refine ⟨rfl, ?_⟩
  obtain ⟨hs1, ts1, es1⟩ := Y.toInCall.same
  have ox := (N' _ (.head _)).1
  have od := (N' _ (.tail _ (.head _))).1
  obtain ⟨n', od'⟩ : ∃ n', h'.get? h.objs.size = some (dictOf [⟨PyData.keyHash w.params "comp_select_list", .str "comp_select_list" (s₁.toks + 1), v⟩] n') := ⟨_, od⟩
  have hVx : V (h.objs.size + 1) = none := hV.fresh (Nat.le_succ _)
  have hVd : V h.objs.size = none := hV.fresh (Nat.le_refl _)
  have hne : h.objs.size ≠ h.objs.size + 1 := Nat.ne_of_lt (Nat.lt_succ_self _)
  have x1 : ExtF V ⟨h, g, d, t, os⟩ (V.put (h.objs.size + 1) (instObj tcA h.objs.size)) { s₁ with heap := h', toks := s₁.toks + 2 } := by
    rw [es1]
    exact ExtF.of_keep1 (s := ⟨h, g, d, t, os⟩) hV (fun a o e => F'.keep a o e) (get_size_none _ (Nat.le_succ _)) ox
  refine ⟨(V.put (h.objs.size + 1) (instObj tcA h.objs.size)).put h.objs.size (dictOf [⟨PyData.keyHash w.params "comp_select_list", .str "comp_select_list" (s₁.toks + 1), v⟩] n'), ⟨x1.same, x1.keep, ?_, fun a o e => ?_, fun a o e => ?_⟩, .cmp (dx := h.objs.size) ((Vw.put_ne _ _ (Ne.symm hne)).trans (Vw.put_self ..)) (Vw.put_self ..) (r₁.mono ?_)⟩
  · exact x1.le.trans (Vw.le_put (by rw [V.put_ne _ hne]; exact hVd))
  · by_cases q : a = h.objs.size
    · exact .inr (q ▸ get_size_none _ (Nat.le_refl _))
    · rw [Vw.put_ne _ _ q] at e; exact x1.new a o e
  · by_cases q : a = h.objs.size
    · subst q; rw [Vw.put_self] at e; cases e; exact od'
    · rw [Vw.put_ne _ _ q] at e; exact x1.held a o e
  · exact x1.le.trans (Vw.le_put (by rw [V.put_ne _ hne]; exact hVd))

/-- a method of an object -/
theorem Ev.compareCall (G : Gd w.params hB) {o : Expr} {ap pos : Pos} {e : Expr} {es : List Expr} {sel : List (Int × Int)} {d : D} {ds : List D} {n : Nat}
    (ho : Ev prog w hB A env ρ o (.cmp sel)) (ha : EvL prog w hB A env ρ pos (e :: es) ds) (hR : Room n A) (hc : Fn prog w hB n (.ref 35) (.cmp sel :: ds) d)
    (hbase : attributeBase o "compare" env (eval o env) = eval o env := by rfl) (hline : (ap.endLine == pos.line) = true := by rfl)
    (hfew : ((backTo pos (starEach (e :: es) env)).all (fun x => !x.1) && (backToKw pos (keywordEach [] env)).all (fun x => x.1.isSome)
      && decide ((e :: es).length + ([] : List Keyword).length + (if ([] : List Keyword).isEmpty then 0 else 1) < 30)) = true := by rfl)
    (he : starEach (e :: es) env = (false, eval e env) :: starEach es env := by rfl) (hplain : (backTo pos (starEach es env)).any (·.1) = false := by rfl) :
    Ev prog w hB A env ρ (.Call (.Attribute o "compare" ap) (e :: es) [] pos) d := fun V s E st => by
  rw [arm_eval_Call, hbase]
  refine wpAny_bind (wpAny_mono (ho V s E st) (fun v s₁ ⟨V₁, x₁, r₁⟩ => ?_) fun _ _ e => e)
  have st₁ := st.ext x₁
  refine Rep.cmpE (fun {a dx hs t u m} e1 e2 rr => ?_) r₁
  have I : InstAt s₁.heap a (instObj tcA dx) tcA (some (dictOf [⟨hs, .str (Str.ofString "comp_select_list") t, u⟩] m)) := ⟨st₁.held _ _ e1, rfl, rfl, st₁.held _ _ e2⟩
  have X := G.kin.keeps st₁.stays
  refine wpAny_bind (wpAny_standAt ?_)
  have fin : wpAny (model prog w) A (callWith pos (.ref 35) [.ref a] (backTo pos (starEach (e :: es) env)) []) (Post w.params env V s d) E s₁ := by
    refine callWith_ev (first := [.ref a]) st₁ (kept_K G (by with_unfolding_all rfl)) ha (fun vs V₂ s₂ x₂ r₂ => ?_) he hplain
    have st₂ := st₁.ext x₂
    exact wpAny_mono (hc A V₂ s₂ (.ref a :: vs) E hR st₂.low st₂.base st₂.held (.cons ((Rep.cmp e1 e2 rr).mono x₂.le) r₂)) (fun v s' h => postF_trans (x₁.trans x₂) h) fun _ _ e => e
  have hform : methodCallForm ((e :: es).length + ([] : List Keyword).length) (backTo pos (starEach (e :: es) env)) (backToKw pos (keywordEach [] env)) = true := hfew
  have hpos : methodCallPos true o env ap pos = pure pos := by unfold methodCallPos; simp [hline]
  unfold methodCall
  rw [hform]
  refine wpAny_bind (wpAny_holding (method_fn X I (plainGet_of (tc_get2 _)).1 (plainGet_of (tc_get2 _)).2 (tc_compare _) (beq_iff_eq.mp (tc_compareF _)) (by with_unfolding_all rfl) ?_))
  exact wpAny_bind (wpAny_of_eq hpos fin)

/-- «self.comp_select_list» -/
theorem Ev.selOf (G : Gd w.params hB) {o : Expr} {pos : Pos} {sel : List (Int × Int)} (ho : Ev prog w hB A env ρ o (.cmp sel)) (hbase : attributeBase o "comp_select_list" env (eval o env) = eval o env := by rfl)
    (ht : ∀ a r, letTemporaryGo o a r = pure () := by intro _ _; rfl) : Ev prog w hB A env ρ (.Attribute o "comp_select_list" pos) (selD sel) := fun V s E st => by
  rw [arm_eval_Attribute, hbase]
  refine wpAny_bind (wpAny_mono (ho V s E st) (fun v s₁ ⟨V₁, x₁, r₁⟩ => ?_) fun _ _ e => e)
  have st₁ := st.ext x₁
  refine Rep.cmpE (fun {a dx hs t u m} e1 e2 rr => ?_) r₁
  have I : InstAt s₁.heap a (instObj tcA dx) tcA (some (dictOf [⟨hs, .str (Str.ofString "comp_select_list") t, u⟩] m)) := ⟨st₁.held _ _ e1, rfl, rfl, st₁.held _ _ e2⟩
  have X := G.kin.keeps st₁.stays
  have hh : handedIn u = true := by (first | refine RepAll.nilE ?_ rr | refine Rep.intE (fun _ => ?_) rr | refine Rep.strE (fun _ => ?_) rr | refine Rep.boolE ?_ rr | cases rr); rfl
  refine wpAny_bind (wpAny_standAt (wpAny_bind (wpAny_holding (get_value X I (plainGet_of (tc_get1 _)).1 (findObj_own (tc_hasDict _) (tc_attr _) (by with_unfolding_all rfl) (v := u) ?_) hh ?_))))
  · show lookIn _ (dictOf _ _) = _
    rw [lookIn_dict]; with_unfolding_all rfl
  · rw [ht]
    exact wpAny_bind (wpAny_pure (wpAny_pure ⟨V₁, x₁.trans ((ExtF.toks st₁.held _).toExt _), rr⟩))
end
end Mine
namespace Mine
theorem sub_refl (ρ : Nm) : ∀ y d, ρ.lookup y = some d → ρ.lookup y = some d := fun _ _ e => e
theorem sub_cons {ρ₀ ρ : Nm} {x : Str} {d : D} (h : ∀ y d, ρ₀.lookup y = some d → ρ.lookup y = some d) (hx : ρ₀.lookup x = none) : ∀ y d', ρ₀.lookup y = some d' → ((x, d) :: ρ).lookup y = some d' := fun y d' e => by
  rw [List.lookup_cons]
  by_cases q : y = x
  · rw [q, hx] at e; cases e
  · rw [beq_eq_false_iff_ne.mpr q]; exact h y d' e
theorem lenS {n : Nat} : ∀ {vs : List Value}, vs.length = n + 1 → ∃ a r, vs = a :: r ∧ r.length = n
  | [], h => absurd h (by simp)
  | a :: r, h => ⟨a, r, rfl, Nat.succ.inj h⟩
theorem len1 {vs : List Value} (h : vs.length = 1) : ∃ a, vs = [a] :=
  let ⟨a, _, e, h⟩ := lenS h; ⟨a, by rw [e, List.length_eq_zero_iff.mp h]⟩
theorem len2 {vs : List Value} (h : vs.length = 2) : ∃ a b, vs = [a, b] :=
  let ⟨a, _, e, h⟩ := lenS h; let ⟨b, e'⟩ := len1 h; ⟨a, b, by rw [e, e']⟩
theorem len3 {vs : List Value} (h : vs.length = 3) : ∃ a b c, vs = [a, b, c] :=
  let ⟨a, _, e, h⟩ := lenS h; let ⟨b, c, e'⟩ := len2 h; ⟨a, b, c, by rw [e, e']⟩

/-- a number or a text -/
inductive Sc where
  | i (n : Int)
  | s (x : Str)
  deriving DecidableEq
noncomputable def Sc.toD : Sc → D
  | .i n => .int n
  | .s x => .str x
noncomputable def Sc.lt : Sc → Sc → Bool
  | .i a, .i b => decide (a < b)
  | .s a, .s b => decide (a.cps.toList < b.cps.toList)
  | _, _ => false
noncomputable def Sc.alike : Sc → Sc → Bool
  | .i _, .i _ => true
  | .s _, .s _ => true
  | _, _ => false
noncomputable def tupS (l : List Sc) : D := .tup (l.map Sc.toD)

noncomputable def cmpStep (left right : List Sc) (p : Int × Int) : Option Int := match left[p.1.toNat]?, right[p.1.toNat]? with
  | some a, some b => if a.lt b then some (-p.2) else if b.lt a then some p.2 else none
  | _, _ => none
noncomputable def cmpF (left right : List Sc) (sel : List (Int × Int)) : Int := (sel.findSome? (cmpStep left right)).getD 0
noncomputable def Fit (left right : List Sc) (sel : List (Int × Int)) : Prop := ∀ p ∈ sel, 0 ≤ p.1 ∧ p.1 < 2 ^ 63 ∧ ∃ a b, left[p.1.toNat]? = some a ∧ right[p.1.toNat]? = some b ∧ a.alike b = true

section
variable {prog : Program} {w : World} {hB : Heap} {A : Around} {env : Env} {ρ : Nm} {μ : List (Str × Mu)}

theorem op_lt_sc {a b : Sc} (h : a.alike b = true) : Op2 prog w hB A (compareOp .Lt) a.toD b.toD (.bool (a.lt b)) := by
  cases a <;> cases b <;> first | exact op_lt | exact op_lt_str | cases h
theorem op_gt_sc {a b : Sc} (h : a.alike b = true) : Op2 prog w hB A (compareOp .Gt) a.toD b.toD (.bool (b.lt a)) := by
  cases a <;> cases b <;> first | exact op_gt | exact op_gt_str | cases h

/-- a loop that may return -/
theorem ForL.scan {α : Type} {g : α → D} {step : α → Option D} {target : Expr} {body : List Stmt} {items : List α}
    (h : ∀ a ∈ items, ∃ β, Asg prog w hB A env μ target (g a) β ∧ (∀ r, step a = some r → Ex prog w hB A env (β ++ ρ) μ body (.ret r)) ∧ (step a = none → Ex prog w hB A env (β ++ ρ) μ body (.next ρ μ))) :
    ForL prog w hB A env target body ρ μ (items.map g) (match items.findSome? step with | some r => .ret r | none => .next ρ μ) := by
  induction items with
  | nil => exact .nil
  | cons a l ih =>
    obtain ⟨β, h1, h2, h3⟩ := h a (.head _)
    rw [List.findSome?_cons]
    cases hs : step a with
    | some r => exact .ret h1 (h2 r hs)
    | none => exact .next h1 (h3 hs) (ih fun b hb => h b (.tail _ hb))
theorem ForL.scan_ret {α : Type} {g : α → D} {step : α → Option D} {target : Expr} {body : List Stmt} {items : List α} {r : D}
    (h : ∀ a ∈ items, ∃ β, Asg prog w hB A env μ target (g a) β ∧ (∀ r, step a = some r → Ex prog w hB A env (β ++ ρ) μ body (.ret r)) ∧ (step a = none → Ex prog w hB A env (β ++ ρ) μ body (.next ρ μ)))
    (hr : items.findSome? step = some r) : ForL prog w hB A env target body ρ μ (items.map g) (.ret r) := by
  have := ForL.scan h; rwa [hr] at this
theorem ForL.scan_next {α : Type} {g : α → D} {step : α → Option D} {target : Expr} {body : List Stmt} {items : List α}
    (h : ∀ a ∈ items, ∃ β, Asg prog w hB A env μ target (g a) β ∧ (∀ r, step a = some r → Ex prog w hB A env (β ++ ρ) μ body (.ret r)) ∧ (step a = none → Ex prog w hB A env (β ++ ρ) μ body (.next ρ μ)))
    (hr : items.findSome? step = none) : ForL prog w hB A env target body ρ μ (items.map g) (.next ρ μ) := by
  have := ForL.scan h; rwa [hr] at this
/-- a loop that goes on, with a state -/
theorem ForL.fold {α σ : Type} {g : α → D} {R : σ → Nm} {M : σ → List (Str × Mu)} {f : σ → α → σ} (I : Nat → σ → Prop) {target : Expr} {body : List Stmt} :
    ∀ {items : List α} {s₀ : σ} (i : Nat), I i s₀ → (∀ j s a, I j s → j < i + items.length → a ∈ items → I (j + 1) (f s a) ∧ ∃ β, Asg prog w hB A env (M s) target (g a) β ∧ Ex prog w hB A env (β ++ R s) (M s) body (.next (R (f s a)) (M (f s a)))) →
    ForL prog w hB A env target body (R s₀) (M s₀) (items.map g) (.next (R (items.foldl f s₀)) (M (items.foldl f s₀)))
  | [], s₀, i, _, _ => .nil
  | a :: l, s₀, i, h0, h => by
    obtain ⟨h1, β, h2, h3⟩ := h i s₀ a h0 (by simp) (.head _)
    exact .next h2 h3 (ForL.fold I (i + 1) h1 fun j s b hs hj hb => h j s b hs (by simp only [List.length_cons]; (first | lia | omega)) (.tail _ hb))
theorem ForT.fold {α σ : Type} {g : α → List D} {R : σ → Nm} {M : σ → List (Str × Mu)} {f : σ → α → σ} (I : Nat → σ → Prop) {ts : List Expr} {body : List Stmt} :
    ∀ {items : List α} {s₀ : σ} (i : Nat), I i s₀ → (∀ j s a, I j s → j < i + items.length → a ∈ items → I (j + 1) (f s a) ∧ ts.length = (g a).length ∧ ∃ β, AsgL prog w hB A env (M s) ts (g a) β ∧ Ex prog w hB A env (β ++ R s) (M s) body (.next (R (f s a)) (M (f s a)))) →
    ForT prog w hB A env ts body (R s₀) (M s₀) (items.map g) (.next (R (items.foldl f s₀)) (M (items.foldl f s₀)))
  | [], s₀, i, _, _ => .nil
  | a :: l, s₀, i, h0, h => by
    obtain ⟨h1, hl, β, h2, h3⟩ := h i s₀ a h0 (by simp) (.head _)
    exact .next hl h2 h3 (ForT.fold I (i + 1) h1 fun j s b hs hj hb => h j s b hs (by simp only [List.length_cons]; (first | lia | omega)) (.tail _ hb))

theorem Ex.forScan {α : Type} {g : α → D} {step : α → Option D} {target iter : Expr} {body rest : List Stmt} {pos : Pos} {items : List α} {d out : D} (hi : EvM prog w hB A env ρ μ iter d) (hI : Itr prog w hB A d (items.map g))
    (ht : (∃ x p, target = .Name x p) ∨ ∃ ts k p, target = .Tuple ts k p)
    (h : ∀ a ∈ items, ∃ β, Asg prog w hB A env μ target (g a) β ∧ (∀ r, step a = some r → Ex prog w hB A env (β ++ ρ) μ body (.ret r)) ∧ (step a = none → Ex prog w hB A env (β ++ ρ) μ body (.next ρ μ)))
    (hout : ∀ r, items.findSome? step = some r → r = out) (hrest : items.findSome? step = none → Ex prog w hB A env ρ μ rest (.ret out))
    (hs : ∀ x, foldedSetIterable iter env x = pure x := by intro _; rfl) : Ex prog w hB A env ρ μ (.For target iter body [] pos :: rest) (.ret out) := by
  cases hf : items.findSome? step with
  | some r => exact hout r hf ▸ Ex.ret (Ex1.for hi hI (ForL.scan_ret h hf) ht hs)
  | none => exact Ex.cons (Ex1.for hi hI (ForL.scan_next h hf) ht hs) (hrest hf)

theorem findSome_map_int {α : Type} (f : α → Option Int) (l : List α) : l.findSome? (fun a => (f a).map D.int) = (l.findSome? f).map D.int := by
  induction l with
  | nil => rfl
  | cons a l ih => rw [List.findSome?_cons, List.findSome?_cons]; cases f a <;> simp [ih]

theorem fn_compare (G : Gd w.params hB) {n : Nat} {sel : List (Int × Int)} {left right : List Sc} (hf : Fit left right sel) : Fn prog w hB (n + 1) (.ref 35) [.cmp sel, tupS left, tupS right] (.int (cmpF left right sel)) := by
  refine Fn.of_def (f := 35) (ps := ["self", "left", "right"]) G rfl rfl (by with_unfolding_all rfl) rfl rfl rfl rfl rfl (fun vs h => by obtain ⟨a, b, c, rfl⟩ := len3 h; rfl) (by decide) (fun x hx => ?_) (fun A env hR hsc hcl hcd hfr => ?_)
  · simp only [List.mem_cons, List.not_mem_nil, or_false] at hx
    rcases hx with rfl | rfl | rfl <;> exact ⟨by decide, .inl rfl⟩
  obtain ⟨scope, L, gl, cells, qual, func, code, frame, blt⟩ := env
  dsimp only at hsc
  subst hsc
  have hall : ∀ r, sel.findSome? (fun p => (cmpStep left right p).map D.int) = some r → r = .int (cmpF left right sel) := fun r hfs => by
    rw [findSome_map_int] at hfs; unfold cmpF
    cases h : sel.findSome? (cmpStep left right) with
    | none => rw [h] at hfs; cases hfs
    | some q => rw [h] at hfs; cases hfs; rfl
  have hnone : sel.findSome? (fun p => (cmpStep left right p).map D.int) = none → cmpF left right sel = 0 := fun hfs => by
    rw [findSome_map_int] at hfs; unfold cmpF
    cases h : sel.findSome? (cmpStep left right) with
    | none => rfl
    | some q => rw [h] at hfs; cases hfs
  refine Ex.forScan (g := fun p : Int × Int => .tup [.int p.1, .int p.2]) (step := fun p => (cmpStep left right p).map D.int) (Ev.m (Ev.selOf G (Ev.name rfl))) (Itr.lst hR.handled) (.inr ⟨_, _, _, rfl⟩) (fun p hp => ?_) hall fun hn => by rw [hnone hn]; exact Ex.ret (Ex1.return Ev.int.m)
  obtain ⟨h0, h63, a, b, ha, hb, hab⟩ := hf p hp
  obtain ⟨ix, dir⟩ := p
  have hs : cmpStep left right (ix, dir) = if a.lt b then some (-dir) else if b.lt a then some dir else none := by unfold cmpStep; simp only [ha, hb]
  refine ⟨_, Asg.tup hR.handled rfl (AsgL.cons ⟨by decide, .inl rfl⟩ (fun _ h => nomatch h) (AsgL.cons ⟨by decide, .inl rfl⟩ (fun _ h => nomatch h) AsgL.nil)), fun r hr => ?_, fun hr => ?_⟩
  · refine Ex.cons (Ex1.assign (Ev.m (Ev.sub (Ev.name rfl) (Ev.name rfl) (op_item_tup h0 h63 (d := a.toD) (by simp [ha])))) ⟨by decide, .inl rfl⟩ (fun _ h => nomatch h)) ?_
    refine Ex.cons (Ex1.assign (Ev.m (Ev.sub (Ev.name rfl) (Ev.name rfl) (op_item_tup h0 h63 (d := b.toD) (by simp [hb])))) ⟨by decide, .inl rfl⟩ (fun _ h => nomatch h)) ?_
    simp only [hs] at hr
    cases h1 : a.lt b with
    | true =>
      rw [h1] at hr; cases hr
      exact Ex.ret (Ex1.ifT (Tst.m (Tst.cmp (Ev.name rfl) (Ev.name rfl) (h1 ▸ op_lt_sc hab))) (Ex.ret (Ex1.return (Ev.neg (Ev.name rfl)).m)))
    | false =>
      rw [h1] at hr
      refine Ex.cons (Ex1.ifF (Tst.m (Tst.cmp (Ev.name rfl) (Ev.name rfl) (h1 ▸ op_lt_sc hab))) Ex.nil) ?_
      cases h2 : b.lt a with
      | true =>
        rw [h2] at hr; cases hr
        exact Ex.ret (Ex1.ifT (Tst.m (Tst.cmp (Ev.name rfl) (Ev.name rfl) (h2 ▸ op_gt_sc hab))) (Ex.ret (Ex1.return (Ev.name rfl).m)))
      | false => rw [h2] at hr; cases hr
  · refine Ex.cons (Ex1.assign (Ev.m (Ev.sub (Ev.name rfl) (Ev.name rfl) (op_item_tup h0 h63 (d := a.toD) (by simp [ha])))) ⟨by decide, .inl rfl⟩ (fun _ h => nomatch h)) ?_
    refine Ex.cons (Ex1.assign (Ev.m (Ev.sub (Ev.name rfl) (Ev.name rfl) (op_item_tup h0 h63 (d := b.toD) (by simp [hb])))) ⟨by decide, .inl rfl⟩ (fun _ h => nomatch h)) ?_
    simp only [hs] at hr
    cases h1 : a.lt b with
    | true => rw [h1] at hr; cases hr
    | false =>
      rw [h1] at hr
      refine Ex.cons (Ex1.ifF (Tst.m (Tst.cmp (Ev.name rfl) (Ev.name rfl) (h1 ▸ op_lt_sc hab))) Ex.nil) ?_
      cases h2 : b.lt a with
      | true => rw [h2] at hr; cases hr
      | false =>
        refine Ex.cons (Ex1.ifF (Tst.m (Tst.cmp (Ev.name rfl) (Ev.name rfl) (h2 ▸ op_gt_sc hab))) Ex.nil) (Ex.weak Ex.nil ?_)
        exact sub_cons (sub_cons (sub_cons (sub_cons (sub_refl _) rfl) rfl) rfl) rfl
end
end Mine
namespace Mine
/-- added under a key -/
noncomputable def dadd (kvs : List (Str × Int)) (p : Str × Int) : List (Str × Int) := dput kvs p.1 ((dget kvs p.1).getD 0 + p.2)
noncomputable def dset (kvs : List (Str × Int)) (p : Str × Int) : List (Str × Int) := dput kvs p.1 p.2
noncomputable def addC (t s : List (Str × Int)) : List (Str × Int) := s.foldl dadd (t.foldl dset [])

theorem dadd_length (kvs : List (Str × Int)) (p : Str × Int) : (dadd kvs p).length ≤ kvs.length + 1 := dput_length ..
theorem fold_len {α β : Type} {f : List β → α → List β} (hf : ∀ s a, (f s a).length ≤ s.length + 1) : ∀ (l : List α) (s : List β), (l.foldl f s).length ≤ s.length + l.length
  | [], s => by simp
  | a :: l, s => by have := fold_len hf l (f s a); have := hf s a; simp only [List.foldl_cons, List.length_cons]; (first | lia | omega)

section
variable {prog : Program} {w : World} {hB : Heap} {A : Around} {env : Env} {ρ : Nm} {μ : List (Str × Mu)}

/-- a test that reads a handle -/
theorem TstM.peek {x : Str} {m : Mu} {e : Expr} {b : Bool} (hx : x ≠ anon) (h : Tst prog w hB A env ((x, m.toD) :: ρ) e b) (ht : ∀ ps, m ≠ .tab ps := by nofun) : TstM prog w hB A env ρ ((x, m) :: μ) e b := fun F V s E st => by
  obtain ⟨a, bs, F', rfl, hm, hload, hdb⟩ := muAll_cons_shape st.mu
  have hoff : ∀ b ∈ a :: bs, V b = none := fun b hb => (st.off b (by rw [List.flatten_cons]; exact List.mem_append_left _ hb)).1
  exact wpAny_mono (h _ s E (st.freeze hx ht).st) (fun v s' ⟨hc, V', y⟩ => ⟨hc, V'.hide (a :: bs), ext_hide hoff y⟩) fun _ _ e => e

theorem hm_one {x y : Str} {m : Mu} (h : (y == x) = false) : ∀ p ∈ [(y, m)], p.1 ≠ x := fun p hp => by rw [List.mem_singleton.mp hp]; exact beq_eq_false_iff_ne.mp h

theorem fn_add_callers (G : Gd w.params hB) {n : Nat} {t s : List (Str × Int)} (ht : t.length ≤ 100) (hs : s.length ≤ 100) : Fn prog w hB (n + 1) (.ref 56) [.dct t, .dct s] (.dct (addC t s)) := by
  refine Fn.of_def (f := 56) (ps := ["target", "source"]) G rfl rfl (by with_unfolding_all rfl) rfl rfl rfl rfl rfl (fun vs h => by obtain ⟨a, b, rfl⟩ := len2 h; rfl) (by decide) (fun x hx => ?_) (fun A env hR hsc hcl hcd hfr => ?_)
  · simp only [List.mem_cons, List.not_mem_nil, or_false] at hx
    rcases hx with rfl | rfl <;> exact ⟨by decide, .inl rfl⟩
  obtain ⟨scope, L, gl, cells, qual, func, code, frame, blt⟩ := env
  dsimp only at hsc
  subst hsc
  refine Ex.cons (Ex1.newDct ⟨by decide, .inl rfl⟩ (fun _ h => nomatch h) rfl G.big) ?_
  refine Ex.cons (Ex1.forT hR.handled (ItT.items hR.handled (Ev.name rfl)) (ForT.fold (σ := List (Str × Int)) (R := fun _ => [("target", .dct t), ("source", .dct s)]) (M := fun acc => [("new_callers", .dct acc)]) (f := dset) (fun j acc => acc.length ≤ j) 0 (s₀ := []) (by simp) (fun j acc p hI hj hp => ?_))) ?_
  · refine ⟨Nat.le_trans (dput_length ..) (Nat.succ_le_succ hI), rfl, _, AsgL.cons ⟨by decide, .inl rfl⟩ (hm_one (by decide)) (AsgL.cons ⟨by decide, .inl rfl⟩ (hm_one (by decide)) AsgL.nil), ?_⟩
    refine Ex.weak (Ex.cons (Ex1.setDct (by decide) (Ev.m (Ev.name rfl)) (Ev.m (Ev.name rfl)) (by (first | lia | omega))) Ex.nil) ?_
    exact sub_cons (sub_cons (sub_refl _) rfl) rfl
  have hlen : (t.foldl dset []).length ≤ 100 := by have := fold_len (f := dset) (fun _ _ => dput_length ..) t []; simp at this; (first | lia | omega)
  refine Ex.cons (Ex1.forT hR.handled (ItT.items hR.handled (Ev.name rfl)) (ForT.fold (σ := List (Str × Int)) (R := fun _ => [("target", .dct t), ("source", .dct s)]) (M := fun acc => [("new_callers", .dct acc)]) (f := dadd) (fun j acc => acc.length ≤ j) 100 (s₀ := t.foldl dset []) hlen (fun j acc p hI hj hp => ?_))) ?_
  · refine ⟨Nat.le_trans (dput_length ..) (Nat.succ_le_succ hI), rfl, _, AsgL.cons ⟨by decide, .inl rfl⟩ (hm_one (by decide)) (AsgL.cons ⟨by decide, .inl rfl⟩ (hm_one (by decide)) AsgL.nil), ?_⟩
    cases hg : dget acc p.1 with
    | some j =>
      have hd : dadd acc p = dput acc p.1 (j + p.2) := by unfold dadd; rw [hg]; rfl
      rw [hd]
      refine Ex.weak (Ex.cons (Ex1.ifT (TstM.peek (by decide) (Tst.cmp (Ev.name rfl) (Ev.name rfl) (b := true) ?_)) (Ex.cons (Ex1.ifF (Tst.m (Tst.call (Ev.call (EvV.blt G (by with_unfolding_all rfl) rfl) kept_blt (EvL.cons (Ev.name rfl) (EvL.cons (Ev.typ (EvV.blt G (by with_unfolding_all rfl) rfl)) EvL.nil)) hR fn_isi_tuple)))
        (Ex.cons (Ex1.augDct (by decide) (Ev.m (Ev.name rfl)) hg (Ev.m (Ev.name rfl)) (by (first | lia | omega))) Ex.nil)) Ex.nil)) Ex.nil) ?_
      · have := op_in_dct (prog := prog) (w := w) (hB := hB) (A := A) (kvs := acc) (k := p.1)
        rwa [hg] at this
      · exact sub_cons (sub_cons (sub_refl _) rfl) rfl
    | none =>
      have hd : dadd acc p = dput acc p.1 p.2 := by unfold dadd; rw [hg]; simp
      rw [hd]
      refine Ex.weak (Ex.cons (Ex1.ifF (TstM.peek (by decide) (Tst.cmp (Ev.name rfl) (Ev.name rfl) (b := false) ?_)) (Ex.cons (Ex1.setDct (by decide) (Ev.m (Ev.name rfl)) (Ev.m (Ev.name rfl)) (by (first | lia | omega))) Ex.nil)) Ex.nil) ?_
      · have := op_in_dct (prog := prog) (w := w) (hB := hB) (A := A) (kvs := acc) (k := p.1)
        rwa [hg] at this
      · exact sub_cons (sub_cons (sub_refl _) rfl) rfl
  · exact Ex.freeze (by decide) (Ex.ret (Ex1.return (Ev.name rfl).m))
end
end Mine
namespace Mine
theorem sub_nil {ρ : Nm} : ∀ y d, ([] : Nm).lookup y = some d → ρ.lookup y = some d := fun _ _ e => by cases e
theorem sub_add {ρ₀ ρ : Nm} {x : Str} {d : D} (hx : ρ.lookup x = some d) (h : ∀ y d, ρ₀.lookup y = some d → ρ.lookup y = some d) : ∀ y d', ((x, d) :: ρ₀).lookup y = some d' → ρ.lookup y = some d' := fun y d' e => by
  rcases lookup_cons_of e with ⟨rfl, rfl⟩ | ⟨_, e⟩
  · exact hx
  · exact h y d' e

section
variable {prog : Program} {w : World} {hB : Heap} {A : Around} {env : Env} {ρ : Nm} {μ : List (Str × Mu)}

theorem Ex1.assignT {t e : Expr} {pos : Pos} {d : D} {β : Nm} (he : EvM prog w hB A env ρ μ e d) (ht : Asg prog w hB A env μ t d β) (hs : swapsWithSole [t] e pos.line env = pure false := by rfl) (hw : swappedStores [t] e env = pure none := by rfl)
    (hone : (assignEach [t] env).map (·.2) = [PySem.assign t env] := by rfl) : Ex1 prog w hB A env ρ μ (.Assign [t] e pos) (.next (β ++ ρ) μ) := fun F V s E st => by
  refine wpAny_Assign_stores (wpAny_mono (he F V s E st) (fun v s₁ ⟨V₁, y, r⟩ => ?_) fun _ _ e => e) hs hw
  rw [hone]
  exact ht ρ F V₁ s₁ v E _ (st.ext y) r fun s' z st' => ⟨V₁, y.toS.trans (fun _ h => .inl h) z, rfl, F, fun _ h => .inl h, st'⟩

structure Ent where
  a : Int
  b : Int
  c : Int
  d : Int
  t : List (Str × Int)
noncomputable def Ent.toD (e : Ent) : D := .tup [.int e.a, .int e.b, .int e.c, .int e.d, .dct e.t]
/-- add_func_stats -/
noncomputable def Ent.add (e f : Ent) : Ent := ⟨f.a + e.a, f.b + e.b, f.c + e.c, f.d + e.d, addC e.t f.t⟩

theorem fn_add_func_stats (G : Gd w.params hB) {n : Nat} {e f : Ent} (he : e.t.length ≤ 100) (hf : f.t.length ≤ 100) : Fn prog w hB (n + 2) (.ref 49) [e.toD, f.toD] (e.add f).toD := by
  refine Fn.of_def (f := 49) (ps := ["target", "source"]) G rfl rfl (by with_unfolding_all rfl) rfl rfl rfl rfl rfl (fun vs h => by obtain ⟨a, b, rfl⟩ := len2 h; rfl) (by decide) (fun x hx => ?_) (fun A env hR hsc hcl hcd hfr => ?_)
  · simp only [List.mem_cons, List.not_mem_nil, or_false] at hx
    rcases hx with rfl | rfl <;> exact ⟨by decide, .inl rfl⟩
  obtain ⟨scope, L, gl, cells, qual, func, code, frame, blt⟩ := env
  dsimp only at hsc
  subst hsc
  have nn : ∀ {x : Str}, ∀ p ∈ ([] : List (Str × Mu)), p.1 ≠ x := fun _ h => nomatch h
  refine Ex.cons (Ex1.assignT (Ev.m (Ev.name rfl)) (Asg.tup hR.handled rfl (AsgL.cons ⟨by decide, .inl rfl⟩ nn (AsgL.cons ⟨by decide, .inl rfl⟩ nn (AsgL.cons ⟨by decide, .inl rfl⟩ nn (AsgL.cons ⟨by decide, .inl rfl⟩ nn (AsgL.cons ⟨by decide, .inl rfl⟩ nn AsgL.nil))))))) ?_
  refine Ex.cons (Ex1.assignT (Ev.m (Ev.name rfl)) (Asg.tup hR.handled rfl (AsgL.cons ⟨by decide, .inl rfl⟩ nn (AsgL.cons ⟨by decide, .inl rfl⟩ nn (AsgL.cons ⟨by decide, .inl rfl⟩ nn (AsgL.cons ⟨by decide, .inl rfl⟩ nn (AsgL.cons ⟨by decide, .inl rfl⟩ nn AsgL.nil))))))) ?_
  refine Ex.ret (Ex1.return (Ev.m (Ev.tuple (EvL.cons (Ev.bin (Ev.name rfl) (Ev.name rfl) op_add) (EvL.cons (Ev.bin (Ev.name rfl) (Ev.name rfl) op_add) (EvL.cons (Ev.bin (Ev.name rfl) (Ev.name rfl) op_add) (EvL.cons (Ev.bin (Ev.name rfl) (Ev.name rfl) op_add)
    (EvL.cons (Ev.call (EvV.glob G (by with_unfolding_all rfl)) (kept_K G (by with_unfolding_all rfl)) (EvL.cons (Ev.name rfl) (EvL.cons (Ev.name rfl) EvL.nil)) hR (fn_add_callers G he hf)) EvL.nil))))) (Nat.le_of_ble_eq_true rfl))))
end
end Mine
namespace Mine
section
variable {prog : Program} {w : World} {hB : Heap} {A : Around} {env ce : Env} {ρ ρ₀ : Nm} {μ : List (Str × Mu)} {scope : Scope}

theorem nomu {x : Str} : ∀ p ∈ ([] : List (Str × Mu)), p.1 ≠ x := fun _ h => nomatch h

/-- the free names of a comprehension -/
theorem rho_nil : ∀ x d, ([] : Nm).lookup x = some d → ρ.lookup x = some d ∧ scope.names.lookup x = some .free ∧ env.kindOf x ≠ some .local := fun _ _ e => by cases e
theorem rho_add {x : Str} {d : D} (h1 : ρ.lookup x = some d) (h2 : scope.names.lookup x = some .free) {k : NameKind} (h3 : env.kindOf x = some k) (h4 : k ≠ .local) (h : ∀ x d, ρ₀.lookup x = some d → ρ.lookup x = some d ∧ scope.names.lookup x = some .free ∧ env.kindOf x ≠ some .local) :
    ∀ y d', ((x, d) :: ρ₀).lookup y = some d' → ρ.lookup y = some d' ∧ scope.names.lookup y = some .free ∧ env.kindOf y ≠ some .local := fun y d' e => by
  rcases lookup_cons_of e with ⟨rfl, rfl⟩ | ⟨_, e⟩
  · exact ⟨h1, h2, by rw [h3]; intro q; exact h4 (Option.some.inj q)⟩
  · exact h y d' e

noncomputable def isFree : NameKind → Bool
  | .free => true
  | _ => false
theorem ScOk.of (h1 : scope.kind = .function) (h2 : (scope.names.map (·.1)).Nodup) (h3 : (scope.names.all fun p => !isFree p.2 || (env.cells.lookup p.1).isSome) = true) : ScOk scope env := ⟨h1, h2, fun x hx => by
  have := List.all_eq_true.mp h3 _ hx
  simp only [isFree, Bool.not_true, Bool.false_or] at this
  exact Option.isSome_iff_exists.mp this⟩
theorem flatMap_le {α β : Type} {f : α → List β} {m : Nat} : ∀ {l : List α}, (∀ a ∈ l, (f a).length ≤ m) → (l.flatMap f).length ≤ l.length * m
  | [], _ => by simp
  | a :: l, h => by
    have h1 := h a (.head _)
    have h2 := flatMap_le fun b hb => h b (.tail _ hb)
    rw [List.flatMap_cons, List.length_append, List.length_cons, Nat.succ_mul]
    (first | lia | omega)
theorem Comp1.filter {α : Type} {g r : α → D} {p : α → Bool} {target : Expr} {ifs : List Expr} {elt : Expr} : ∀ {items : List α},
    (∀ a ∈ items, ∃ β, (∀ q, Asg prog w hB A ce [(anon, .lst q)] target (g a) β) ∧ fresh β ρ = true ∧ TstL prog w hB A ce (β ++ ρ) ifs (p a) ∧ (p a = true → Ev prog w hB A ce (β ++ ρ) elt (r a))) →
    Comp1 prog w hB A ce target ifs elt ρ (items.map g) ((items.filter p).map r)
  | [], _ => .nil
  | a :: l, h => by
    obtain ⟨β, h1, h2, h3, h4⟩ := h a (.head _)
    have ih := Comp1.filter (g := g) (r := r) (p := p) (items := l) fun b hb => h b (.tail _ hb)
    cases hp : p a with
    | true => rw [List.filter_cons_of_pos hp]; rw [hp] at h3; exact .take h1 h2 h3 (h4 hp) ih
    | false => rw [List.filter_cons_of_neg (by simp [hp])]; rw [hp] at h3; exact .skip h1 h2 h3 ih
theorem Comp1.map {α : Type} {g r : α → D} {target : Expr} {elt : Expr} : ∀ {items : List α},
    (∀ a ∈ items, ∃ β, (∀ q, Asg prog w hB A ce [(anon, .lst q)] target (g a) β) ∧ fresh β ρ = true ∧ Ev prog w hB A ce (β ++ ρ) elt (r a)) →
    Comp1 prog w hB A ce target [] elt ρ (items.map g) (items.map r)
  | [], _ => .nil
  | a :: l, h => by
    obtain ⟨β, h1, h2, h3⟩ := h a (.head _)
    exact .take h1 h2 TstL.nil h3 (Comp1.map fun b hb => h b (.tail _ hb))
theorem Comp2.map {α : Type} {g : α → D} {r : α → List D} {target target' iter' : Expr} {ifs' : List Expr} {elt : Expr} : ∀ {items : List α},
    (∀ a ∈ items, ∃ β d' ds', (∀ q, Asg prog w hB A ce [(anon, .lst q)] target (g a) β) ∧ fresh β ρ = true ∧ Ev prog w hB A ce (β ++ ρ) iter' d' ∧ Itr prog w hB A d' ds' ∧ Comp1 prog w hB A ce target' ifs' elt (β ++ ρ) ds' (r a)) →
    Comp2 prog w hB A ce target [] target' iter' ifs' elt ρ (items.map g) (items.flatMap r)
  | [], _ => .nil
  | a :: l, h => by
    obtain ⟨β, d', ds', h1, h2, h3, h4, h5⟩ := h a (.head _)
    rw [List.flatMap_cons]
    exact .take h1 h2 TstL.nil h3 h4 h5 (Comp2.map fun b hb => h b (.tail _ hb))
theorem asg_anon {x : Str} {p : Pos} {d : D} (hx : Storable ce x) (hn : x ≠ anon) : ∀ q, Asg prog w hB A ce [(anon, .lst q)] (.Name x p) d [(x, d)] := fun q => Asg.name hx fun p hp => by rw [List.mem_singleton.mp hp]; exact Ne.symm hn
/-- a comprehension's own name can be stored -/
theorem CEnv.sto (h : CEnv scope ce) {x : Str} (hd : (x == ("__debug__" : Str)) = false) (hk : scope.names.lookup x = some .local) : Storable ce x := ⟨hd, .inl (h.kind x .local hk (by decide))⟩
theorem CEnv.stoC (h : CEnv scope ce) {x : Str} (hd : (x == ("__debug__" : Str)) = false) (hk : scope.names.lookup x = some .cell) : Storable ce x := ⟨hd, .inr ⟨h.kind x .cell hk (by decide), h.own x (mem_of_lookup hk)⟩⟩
theorem CEnv.glo (h : CEnv scope ce) {x : Str} (hk : scope.names.lookup x = some .globalImplicit) : ce.kindOf x = some .globalImplicit := h.kind x _ hk (by decide)

theorem Ev.partFrom {value e : Expr} {p pos : Pos} {ds : List D} {k : Int} (hv : Ev prog w hB A env ρ value (.lst ds)) (he : Ev prog w hB A env ρ e (.int k)) (hk : 0 ≤ k) (hz : ds.length ≤ 1000000)
    (ht : ∀ o r, letTemporaryGo value o r = pure () := by intro _ _; rfl) : Ev prog w hB A env ρ (.Subscript value (.Slice (some e) none none p) pos) (.lst (ds.drop k.toNat)) := by
  have := Ev.part (p := p) (pos := pos) hv (part_some he) part_none hz ht
  have e1 : (ds.drop (kms_lo (some k) ds.length)).take (kms_hi none ds.length - kms_lo (some k) ds.length) = ds.drop k.toNat := by
    unfold kms_lo kms_hi
    simp only [show ¬ k < 0 by (first | lia | omega), if_false]
    rw [List.take_of_length_le (by simp)]
    by_cases h : k.toNat ≤ ds.length
    · rw [Nat.min_eq_left h]
    · rw [Nat.min_eq_right (by (first | lia | omega)), List.drop_length, List.drop_of_length_le (by (first | lia | omega))]
  rwa [e1] at this
theorem Ev.partTo {value e : Expr} {p pos : Pos} {ds : List D} {k : Int} (hv : Ev prog w hB A env ρ value (.lst ds)) (he : Ev prog w hB A env ρ e (.int k)) (hk : 0 ≤ k) (hz : ds.length ≤ 1000000)
    (ht : ∀ o r, letTemporaryGo value o r = pure () := by intro _ _; rfl) : Ev prog w hB A env ρ (.Subscript value (.Slice none (some e) none p) pos) (.lst (ds.take k.toNat)) := by
  have := Ev.part (p := p) (pos := pos) hv part_none (part_some he) hz ht
  have e1 : (ds.drop (kms_lo none ds.length)).take (kms_hi (some k) ds.length - kms_lo none ds.length) = ds.take k.toNat := by
    unfold kms_lo kms_hi
    simp only [show ¬ k < 0 by (first | lia | omega), if_false, List.drop_zero, Nat.sub_zero]
    by_cases h : k.toNat ≤ ds.length
    · rw [Nat.min_eq_left h]
    · rw [Nat.min_eq_right (by (first | lia | omega)), List.take_of_length_le (Nat.le_refl _), List.take_of_length_le (by (first | lia | omega))]
  rwa [e1] at this
theorem Ev.partMid {value e e' : Expr} {p pos : Pos} {ds : List D} {k l : Int} (hv : Ev prog w hB A env ρ value (.lst ds)) (he : Ev prog w hB A env ρ e (.int k)) (he' : Ev prog w hB A env ρ e' (.int l)) (hk : 0 ≤ k) (hl : k ≤ l) (hz : ds.length ≤ 1000000)
    (ht : ∀ o r, letTemporaryGo value o r = pure () := by intro _ _; rfl) : Ev prog w hB A env ρ (.Subscript value (.Slice (some e) (some e') none p) pos) (.lst ((ds.drop k.toNat).take (l.toNat - k.toNat))) := by
  have := Ev.part (p := p) (pos := pos) hv (part_some he) (part_some he') hz ht
  have e1 : (ds.drop (kms_lo (some k) ds.length)).take (kms_hi (some l) ds.length - kms_lo (some k) ds.length) = (ds.drop k.toNat).take (l.toNat - k.toNat) := by
    unfold kms_lo kms_hi
    simp only [show ¬ k < 0 by (first | lia | omega), show ¬ l < 0 by (first | lia | omega), if_false]
    by_cases h : k.toNat ≤ ds.length
    · rw [Nat.min_eq_left h]
      by_cases h' : l.toNat ≤ ds.length
      · rw [Nat.min_eq_left h']
      · rw [Nat.min_eq_right (by (first | lia | omega)), List.take_of_length_le (by simp), List.take_of_length_le (by simp; (first | lia | omega))]
    · have h1 : min k.toNat ds.length = ds.length := Nat.min_eq_right (by (first | lia | omega))
      rw [h1, List.drop_length, List.drop_of_length_le (by (first | lia | omega))]; simp
  rwa [e1] at this

/-- _law_over -/
noncomputable def overF (one other : List Int) : Int := (one.flatMap fun h => (other.filter fun t => decide (t < h)).map fun _ => (1 : Int)).sum

theorem fn_law_over (G : Gd w.params hB) {n : Nat} {one other : List Int} (h1 : one.length ≤ 100) (h2 : other.length ≤ 100) : Fn prog w hB (n + 1) (.ref 143) [.lst (intsD one), .lst (intsD other)] (.int (overF one other)) := by
  refine Fn.of_def (f := 143) (ps := ["one", "other"]) G rfl rfl (by with_unfolding_all rfl) rfl rfl rfl rfl rfl (fun vs h => by obtain ⟨a, b, rfl⟩ := len2 h; rfl) (by decide) (fun x hx => ?_) (fun A env hR hsc hcl hcd hfr => ?_)
  · simp only [List.mem_cons, List.not_mem_nil, or_false] at hx
    rcases hx with rfl | rfl
    · exact ⟨by decide, .inl rfl⟩
    · exact ⟨by decide, .inr ⟨rfl, fun k => rfl⟩⟩
  obtain ⟨scope, L, gl, cells, qual, func, code, frame, blt⟩ := env
  dsimp only at hsc hcl
  subst hsc hcl
  refine Ex.ret (Ex1.return (Ev.m (Ev.call (EvV.blt G (by with_unfolding_all rfl) rfl) kept_blt (EvL.cons (d := .lst (intsD (one.flatMap fun h => (other.filter fun t => decide (t < h)).map fun _ => (1 : Int)))) ?_ EvL.nil) hR fn_sum)))
  have e0 : intsD (one.flatMap fun h => (other.filter fun t => decide (t < h)).map fun _ => (1 : Int)) = one.flatMap fun h => (other.filter fun t => decide (t < h)).map fun _ => D.int 1 := by simp [intsD, List.map_flatMap, Function.comp_def]
  rw [e0]
  refine Ev.comp (ρ₀ := [("other", .lst (intsD other))]) (Ev.name rfl) (Itr.lst hR.handled) (ScOk.of rfl (by decide) rfl) (rho_add rfl rfl rfl (by decide) rho_nil) fun ce hce => Gath.two ⟨_, _, rfl⟩ ⟨_, _, rfl⟩ ?_ (fun _ => rfl) (Comp2.map fun h hh => ?_)
  · refine Nat.le_trans (flatMap_le (m := 100) fun h _ => ?_) ?_
    · rw [List.length_map]; exact Nat.le_trans (List.length_filter_le ..) h2
    · (first | lia | omega)
  · refine ⟨_, _, _, asg_anon (hce.sto (by decide) rfl) (by decide), rfl, Ev.name rfl, Itr.lst hR.handled, Comp1.filter fun t ht => ?_⟩
    refine ⟨_, asg_anon (hce.sto (by decide) rfl) (by decide), rfl, TstL.one (Tst.cmp (Ev.name rfl) (Ev.name rfl) op_gt), fun _ => Ev.int⟩
end
end Mine
namespace Mine
theorem addC_length (t s : List (Str × Int)) : (addC t s).length ≤ t.length + s.length := by
  unfold addC
  have h1 := fold_len (f := dadd) dadd_length s (t.foldl dset [])
  have h2 := fold_len (f := dset) (fun _ _ => dput_length ..) t []
  simp at h2; (first | lia | omega)

noncomputable def madeF (e₀ : Ent) (rest : List Ent) : List (Str × Int) := rest.foldl (fun acc e => addC acc e.t) e₀.t

noncomputable def msgS : Str := Str.ofString "no median for empty data"
noncomputable def midStep (c : List Int) (a : Int) (p : Int) : Option D := if ((c.filter fun o => decide (o < p)).length : Int) == a then some (.int p) else none
noncomputable def middleF (c : List Int) (a : Int) : D := (c.findSome? (midStep c a)).getD (.str msgS)

section
variable {prog : Program} {w : World} {hB : Heap} {A : Around} {env ce : Env} {ρ ρ₀ : Nm} {μ : List (Str × Mu)} {scope : Scope}

theorem Storable.cell {x : Str} (hcl : env.cells = cellsFrom (env.locals + 1) env.scope.names []) (hd : (x == ("__debug__" : Str)) = false) (hk : env.scope.names.lookup x = some .cell) : Storable env x := by
  obtain ⟨c, hc, hlt⟩ := cellsFrom_new (n₀ := env.locals + 1) env.scope.names (env.locals + 1) [] (.inl (mem_of_lookup hk)) (Nat.le_refl _)
  exact ⟨hd, .inr ⟨hk, c, by rw [hcl]; exact hc, hlt⟩⟩

theorem fn_len_map {α : Type} {g : α → D} {n : Nat} {items : List α} (hz : items.length ≤ 1000000) : Fn prog w hB n (.builtin "len") [.lst (items.map g)] (.int items.length) := by
  have := fn_len_lst (prog := prog) (w := w) (hB := hB) (n := n) (ds := items.map g) (by rw [List.length_map]; (first | lia | omega))
  rw [List.length_map] at this
  exact this
theorem Ex.if1 {test : Expr} {body orelse : List Stmt} {pos : Pos} {b : Bool} {o : Out} (ht : TstM prog w hB A env ρ μ test b) (hT : b = true → Ex prog w hB A env ρ μ body o) (hF : b = false → Ex prog w hB A env ρ μ orelse o) : Ex prog w hB A env ρ μ [.If test body orelse pos] o := by
  have h : Ex1 prog w hB A env ρ μ (.If test body orelse pos) o := by
    cases b with
    | true => exact Ex1.ifT ht (hT rfl)
    | false => exact Ex1.ifF ht (hF rfl)
  cases o with
  | ret d => exact Ex.ret h
  | next ρ' μ' => exact Ex.cons h Ex.nil
noncomputable def scanOut (ρ : Nm) (μ : List (Str × Mu)) : Option D → Out
  | some r => .ret r
  | none => .next ρ μ
theorem Ex.forScan' {α : Type} {g : α → D} {step : α → Option D} {target iter : Expr} {body rest : List Stmt} {pos : Pos} {items : List α} {d out : D} (hi : EvM prog w hB A env ρ μ iter d) (hI : Itr prog w hB A d (items.map g))
    (ht : (∃ x p, target = .Name x p) ∨ ∃ ts k p, target = .Tuple ts k p)
    (h : ∀ a ∈ items, ∃ β, Asg prog w hB A env μ target (g a) β ∧ Ex prog w hB A env (β ++ ρ) μ body (scanOut ρ μ (step a)))
    (hout : ∀ r, items.findSome? step = some r → r = out) (hrest : items.findSome? step = none → Ex prog w hB A env ρ μ rest (.ret out))
    (hs : ∀ x, foldedSetIterable iter env x = pure x := by intro _; rfl) : Ex prog w hB A env ρ μ (.For target iter body [] pos :: rest) (.ret out) :=
  Ex.forScan hi hI ht (fun a ha => by
    obtain ⟨β, h1, h2⟩ := h a ha
    exact ⟨β, h1, fun r hr => by rw [hr] at h2; exact h2, fun hr => by rw [hr] at h2; exact h2⟩) hout hrest hs

theorem fn_law_made (G : Gd w.params hB) {n : Nat} {e₀ : Ent} {rest : List Ent} (h0 : e₀.t.length ≤ 10) (hr : ∀ e ∈ rest, e.t.length ≤ 10) (hl : rest.length ≤ 8) : Fn prog w hB (n + 2) (.ref 107) [.lst ((e₀ :: rest).map Ent.toD)] (.dct (madeF e₀ rest)) := by
  refine Fn.of_def (f := 107) (ps := ["entries"]) G rfl rfl (by with_unfolding_all rfl) rfl rfl rfl rfl rfl (fun vs h => by obtain ⟨a, rfl⟩ := len1 h; rfl) (by decide) (fun x hx => ?_) (fun A env hR hsc hcl hcd hfr => ?_)
  · rw [List.mem_singleton.mp hx]; exact ⟨by decide, .inl rfl⟩
  obtain ⟨scope, L, gl, cells, qual, func, code, frame, blt⟩ := env
  dsimp only at hsc hcl
  subst hsc hcl
  refine Ex.cons (Ex1.assign (Ev.m (Ev.sub (Ev.sub (Ev.name rfl) Ev.int (op_item_lst (by decide) (by decide) (d := e₀.toD) rfl)) Ev.int (op_item_tup (by decide) (by decide) (d := .dct e₀.t) rfl))) ⟨by decide, .inl rfl⟩ nomu) ?_
  refine Ex.cons (Ex1.for (Ev.m (Ev.partFrom (ds := (e₀ :: rest).map Ent.toD) (k := 1) (Ev.name rfl) Ev.int (by decide) (by simp; (first | lia | omega)))) (Itr.lst (ds := rest.map Ent.toD) hR.handled)
    (ForL.fold (σ := List (Str × Int)) (R := fun acc => [("made", .dct acc), ("entries", .lst ((e₀ :: rest).map Ent.toD))]) (M := fun _ => []) (f := fun acc e => addC acc e.t) (fun j acc => acc.length ≤ 10 * j + 10) 0 (s₀ := e₀.t) (by (first | lia | omega)) (fun j acc e hI hj he => ?_)) (.inl ⟨_, _, rfl⟩)) (Ex.ret (Ex1.return (Ev.name rfl).m))
  have hel := hr e he
  refine ⟨by have := addC_length acc e.t; (first | lia | omega), _, Asg.name ⟨by decide, .inl rfl⟩ nomu, ?_⟩
  refine Ex.weak (Ex.cons (Ex1.assign (Ev.m (Ev.call (EvV.glob G (by with_unfolding_all rfl)) (kept_K G (by with_unfolding_all rfl)) (EvL.cons (Ev.name rfl) (EvL.cons (Ev.sub (Ev.name rfl) Ev.int (op_item_tup (by decide) (by decide) (d := .dct e.t) rfl)) EvL.nil)) hR (fn_add_callers G (by (first | lia | omega)) (by (first | lia | omega))))) ⟨by decide, .inl rfl⟩ nomu) Ex.nil) ?_
  exact sub_add rfl (sub_add rfl sub_nil)

theorem fn_law_middle (G : Gd w.params hB) {n : Nat} {c : List Int} {a : Int} (hc : c.length ≤ 100) : Fn prog w hB (n + 1) (.ref 131) [.lst (intsD c), .int a] (middleF c a) := by
  refine Fn.of_def (f := 131) (ps := ["column", "ahead"]) G rfl rfl (by with_unfolding_all rfl) rfl rfl rfl rfl rfl (fun vs h => by obtain ⟨a, b, rfl⟩ := len2 h; rfl) (by decide) (fun x hx => ?_) (fun A env hR hsc hcl hcd hfr => ?_)
  · simp only [List.mem_cons, List.not_mem_nil, or_false] at hx
    rcases hx with rfl | rfl <;> exact ⟨by decide, .inl rfl⟩
  obtain ⟨scope, L, gl, cells, qual, func, code, frame, blt⟩ := env
  dsimp only at hsc hcl
  subst hsc hcl
  refine Ex.forScan' (g := D.int) (step := midStep c a) (Ev.m (Ev.name rfl)) (Itr.lst hR.handled) (.inl ⟨_, _, rfl⟩) (fun p hp => ?_) (fun r hr => by unfold middleF; rw [hr]; rfl) fun hn => by unfold middleF; rw [hn]; exact Ex.ret (Ex1.return Ev.str.m)
  refine ⟨_, Asg.name (Storable.cell rfl (by decide) rfl) nomu, ?_⟩
  refine Ex.if1 (b := ((c.filter fun o => decide (o < p)).length : Int) == a) (Tst.m (Tst.cmp (Ev.call (EvV.blt G (by with_unfolding_all rfl) rfl) kept_blt (EvL.cons (d := .lst (intsD (c.filter fun o => decide (o < p)))) ?_ EvL.nil) hR (d := .int (c.filter fun o => decide (o < p)).length) ?_) (Ev.name rfl) op_eq)) (fun hb => ?_) (fun hb => ?_)
  · refine Ev.comp (ρ₀ := [("place", .int p)]) (Ev.name rfl) (Itr.lst hR.handled) (ScOk.of rfl (by decide) rfl) (rho_add rfl rfl rfl (by decide) rho_nil) fun ce hce => Gath.one (.inl ⟨_, _, rfl⟩) ?_ (Comp1.filter fun t ht => ?_)
    · unfold intsD; rw [List.length_map]; exact Nat.le_trans (List.length_filter_le ..) (by (first | lia | omega))
    · exact ⟨_, asg_anon (hce.sto (by decide) rfl) (by decide), rfl, TstL.one (Tst.cmp (Ev.name rfl) (Ev.name rfl) op_lt), fun _ => Ev.name rfl⟩
  · exact fn_len_map (Nat.le_trans (List.length_filter_le ..) (by (first | lia | omega)))
  · unfold midStep; rw [if_pos hb]
    exact Ex.ret (Ex1.return (Ev.name rfl).m)
  · unfold midStep; rw [if_neg (by rw [hb]; decide)]
    exact Ex.weak Ex.nil (sub_add rfl (sub_add rfl sub_nil))
end
end Mine
set_option maxHeartbeats 400000
namespace Mine
abbrev Row := Int × Int × Int
noncomputable def tri (r : Row) : List Int := [r.1, r.2.1, r.2.2]
noncomputable def rowD (r : Row) : D := .lst [.int r.1, .int r.2.1, .int r.2.2]
noncomputable def base : List Row := [(0, 2, 3), (4, 0, 2), (1, 2, 1), (2, 1, 1), (1, 1, 1), (4, 3, 1), (2, 3, 3), (3, 1, 1), (4, 2, 1), (4, 0, 2)]
noncomputable def rowOf (x : Int) : Row := (x.fmod 6, (x.fdiv 6).fmod 5, 1 + (x.fdiv 30).fmod 4)
noncomputable def log1 (script : List Int) : List Row := (script.take 6).foldl (fun acc x => acc ++ [rowOf x]) base
noncomputable def bump (rows : List Row) (p : Nat × Int) : List Row := match rows[p.1 % rows.length]? with
  | some r => rows.set (p.1 % rows.length) (r.1, r.2.1, r.2.2 + p.2.fmod 4)
  | none => rows
noncomputable def logF (script : List Int) : List Row := ((List.range ((script.drop 6).take 54).length).zip ((script.drop 6).take 54)).foldl bump (log1 script)

theorem bump_length (rows : List Row) (p : Nat × Int) : (bump rows p).length = rows.length := by
  unfold bump; split <;> simp
theorem foldl_bump_length : ∀ (l : List (Nat × Int)) (rows : List Row), (l.foldl bump rows).length = rows.length
  | [], _ => rfl
  | p :: l, rows => by rw [List.foldl_cons, foldl_bump_length l, bump_length]

section
variable {prog : Program} {w : World} {hB : Heap} {A : Around} {env ce : Env} {ρ ρ₀ : Nm} {μ : List (Str × Mu)} {scope : Scope}

theorem Ev.partToM {α : Type} {g : α → D} {value e : Expr} {p pos : Pos} {items : List α} {k : Int} (hv : Ev prog w hB A env ρ value (.lst (items.map g))) (he : Ev prog w hB A env ρ e (.int k)) (hk : 0 ≤ k) (hz : items.length ≤ 1000000)
    (ht : ∀ o r, letTemporaryGo value o r = pure () := by intro _ _; rfl) : Ev prog w hB A env ρ (.Subscript value (.Slice none (some e) none p) pos) (.lst ((items.take k.toNat).map g)) := by
  rw [List.map_take]; exact Ev.partTo hv he hk (by simpa using hz) ht
theorem Ev.partFromM {α : Type} {g : α → D} {value e : Expr} {p pos : Pos} {items : List α} {k : Int} (hv : Ev prog w hB A env ρ value (.lst (items.map g))) (he : Ev prog w hB A env ρ e (.int k)) (hk : 0 ≤ k) (hz : items.length ≤ 1000000)
    (ht : ∀ o r, letTemporaryGo value o r = pure () := by intro _ _; rfl) : Ev prog w hB A env ρ (.Subscript value (.Slice (some e) none none p) pos) (.lst ((items.drop k.toNat).map g)) := by
  rw [List.map_drop]; exact Ev.partFrom hv he hk (by simpa using hz) ht
theorem Ev.partMidM {α : Type} {g : α → D} {value e e' : Expr} {p pos : Pos} {items : List α} {k l : Int} (hv : Ev prog w hB A env ρ value (.lst (items.map g))) (he : Ev prog w hB A env ρ e (.int k)) (he' : Ev prog w hB A env ρ e' (.int l)) (hk : 0 ≤ k) (hl : k ≤ l) (hz : items.length ≤ 1000000)
    (ht : ∀ o r, letTemporaryGo value o r = pure () := by intro _ _; rfl) : Ev prog w hB A env ρ (.Subscript value (.Slice (some e) (some e') none p) pos) (.lst (((items.drop k.toNat).take (l.toNat - k.toNat)).map g)) := by
  rw [List.map_take, List.map_drop]; exact Ev.partMid hv he he' hk hl (by simpa using hz) ht

theorem ItT.enumI {np pos : Pos} {e : Expr} {xs : List Int} (hR : A.handled = none) (hf : EvV prog w hB A env (.Name "enumerate" np) (.type "enumerate")) (he : Ev prog w hB A env ρ e (.lst (intsD xs)))
    (hse : starEach [e] env = [(false, eval e env)] := by rfl) : ItT prog w hB A env ρ (.Call (.Name "enumerate" np) [e] [] pos) (((List.range xs.length).zip xs).map fun p => [D.int (Int.ofNat p.1), D.int p.2]) := by
  have := ItT.enum (pos := pos) hR hf he hse
  have e1 : (List.range (intsD xs).length).zipWith (fun (i : Nat) d => [D.int (Int.ofNat i), d]) (intsD xs) = ((List.range xs.length).zip xs).map fun p => [D.int (Int.ofNat p.1), D.int p.2] := by
    unfold intsD
    rw [List.length_map, List.zipWith_map_right, List.zip, List.map_zipWith]
  rwa [e1] at this

theorem EvNew.row3 {a b c : Int} {k₁ k₂ k₃ : Nat} {p₁ p₂ p₃ pos : Pos} : EvNew prog w hB A env ρ (.List [.Constant (.int a) k₁ p₁, .Constant (.int b) k₂ p₂, .Constant (.int c) k₃ p₃] pos) (intsD [a, b, c]) :=
  EvNew.list (EvL.cons Ev.int (EvL.cons Ev.int (EvL.cons Ev.int EvL.nil))) (Nat.le_of_ble_eq_true rfl)

theorem swapL {es : List Expr} {p : Pos} {t : Option Expr} {l : Nat} : swapsWith (.List es p) t l env = pure false := rfl
theorem starL {es rest : List Expr} {p : Pos} : starEach (.List es p :: rest) env = (false, eval (.List es p) env) :: starEach rest env := rfl
theorem EvG.cons' {a b c : Int} {k₁ k₂ k₃ : Nat} {p₁ p₂ p₃ pos lp : Pos} {es : List Expr} {rows : List (List Int)} (r : EvG prog w hB A env ρ lp es rows) :
    EvG prog w hB A env ρ lp (.List [.Constant (.int a) k₁ p₁, .Constant (.int b) k₂ p₂, .Constant (.int c) k₃ p₃] pos :: es) ([a, b, c] :: rows) := EvG.cons EvNew.row3 r starL

theorem fn_law_log (G : Gd w.params hB) {n : Nat} {script : List Int} (hs : script.length ≤ 63) : Fn prog w hB (n + 1) (.ref 90) [.lst (intsD script)] (.lst ((logF script).map rowD)) := by
  refine Fn.of_def (f := 90) (ps := ["script"]) G rfl rfl (by with_unfolding_all rfl) rfl rfl rfl rfl rfl (fun vs h => by obtain ⟨a, rfl⟩ := len1 h; rfl) (by decide) (fun x hx => ?_) (fun A env hR hsc hcl hcd hfr => ?_)
  · rw [List.mem_singleton.mp hx]; exact ⟨by decide, .inl rfl⟩
  obtain ⟨scope, L, gl, cells, qual, func, code, frame, blt⟩ := env
  dsimp only at hsc hcl
  subst hsc hcl
  have hlog1 : (log1 script).length ≤ 16 := by
    have := fold_len (f := fun acc x => acc ++ [rowOf x]) (by intro s a; simp) (script.take 6) base
    have h2 : (script.take 6).length ≤ 6 := by rw [List.length_take]; (first | lia | omega)
    have h3 : base.length = 10 := rfl
    unfold log1; (first | lia | omega)
  have hlog1' : 10 ≤ (log1 script).length := by
    have : ∀ (l : List Int) (acc : List Row), acc.length ≤ (l.foldl (fun acc x => acc ++ [rowOf x]) acc).length := by
      intro l
      induction l with
      | nil => intro acc; exact Nat.le_refl _
      | cons a l ih => intro acc; exact Nat.le_trans (by simp) (ih _)
    have h := this (script.take 6) base
    have h3 : base.length = 10 := rfl
    unfold log1; (first | lia | omega)
  refine Ex.cons (ρ₁ := [("script", .lst (intsD script))]) (μ₁ := [("log", .grid (base.map tri))]) ?s ?_
  case s =>
    refine Ex1.newGrid (rows := [[0, 2, 3], [4, 0, 2], [1, 2, 1], [2, 1, 1], [1, 1, 1], [4, 3, 1], [2, 3, 3], [3, 1, 1], [4, 2, 1], [4, 0, 2]]) ?a ?b ?c ?d ?e ?f
    case a =>
      iterate 10 refine EvG.cons' ?_
      exact EvG.nil
    case b => decide
    case c => exact ⟨by decide, .inl rfl⟩
    case d => exact nomu
    case e => rfl
    case f => exact swapL
  refine Ex.cons (Ex1.for (Ev.m (Ev.partToM (items := script) (g := D.int) (k := 6) (Ev.name rfl) Ev.int (by decide) (by (first | lia | omega)))) (Itr.lst hR.handled)
    (ForL.fold (σ := List Row) (R := fun _ => [("script", .lst (intsD script))]) (M := fun acc => [("log", .grid (acc.map tri))]) (f := fun acc x => acc ++ [rowOf x]) (fun j acc => acc.length ≤ j) 10 (s₀ := base) (by decide) (fun j acc x hI hj hx => ?_)) (.inl ⟨_, _, rfl⟩)) ?_
  · refine ⟨by simpa using hI, _, Asg.name ⟨by decide, .inl rfl⟩ (hm_one (by decide)), ?_⟩
    have hj' : j < 16 := by
      have h6 : (script.take (Int.toNat 6)).length ≤ 6 := by rw [List.length_take]; exact Nat.min_le_left _ _
      (first | lia | omega)
    rw [show (acc ++ [rowOf x]).map tri = acc.map tri ++ [tri (rowOf x)] by simp]
    refine Ex.weak (Ex.cons (Ex1.appendGrid (is := tri (rowOf x)) (by decide) (EvNew.list (EvL.cons (Ev.bin (Ev.name rfl) Ev.int (op_mod (by decide))) (EvL.cons (Ev.bin (Ev.bin (Ev.name rfl) Ev.int (op_div (by decide) (PyProof.noPylong_small (by decide)))) Ev.int (op_mod (by decide)))
      (EvL.cons (Ev.bin Ev.int (Ev.bin (Ev.bin (Ev.name rfl) Ev.int (op_div (by decide) (PyProof.noPylong_small (by decide)))) Ev.int (op_mod (by decide))) op_add) EvL.nil))) (Nat.le_of_ble_eq_true rfl)) (by rw [List.length_map]; (first | lia | omega))) Ex.nil) ?_
    exact sub_add rfl sub_nil
  refine Ex.cons (Ex1.forT hR.handled (ItT.enumI (xs := (script.drop 6).take 54) hR.handled (EvV.blt G (by with_unfolding_all rfl) rfl) (Ev.partMidM (items := script) (g := D.int) (k := 6) (l := 60) (Ev.name rfl) Ev.int Ev.int (by decide) (by decide) (by (first | lia | omega))))
    (ForT.fold (σ := List Row) (R := fun _ => [("script", .lst (intsD script))]) (M := fun acc => [("log", .grid (acc.map tri))]) (f := bump) (fun j acc => acc.length = (log1 script).length) 0 (s₀ := log1 script) rfl (fun j acc p hI hj hp => ?_))) ?_
  · refine ⟨by rw [bump_length]; exact hI, rfl, _, AsgL.cons ⟨by decide, .inl rfl⟩ (hm_one (by decide)) (AsgL.cons ⟨by decide, .inl rfl⟩ (hm_one (by decide)) AsgL.nil), ?_⟩
    have hlt : p.1 % acc.length < acc.length := Nat.mod_lt _ (by (first | lia | omega))
    have hget : acc[p.1 % acc.length]? = some acc[p.1 % acc.length] := List.getElem?_eq_getElem hlt
    generalize hr : acc[p.1 % acc.length] = r at hget
    obtain ⟨f, c, q⟩ := r
    have hbump : (bump acc p).map tri = (acc.map tri).set (p.1 % acc.length) ((tri (f, c, q)).set 2 (q + p.2.fmod 4)) := by
      unfold bump; rw [hget]; simp [List.map_set, tri]
    rw [hbump]
    have hmod : ((Int.ofNat p.1).fmod ((acc.map tri).map fun r => D.lst (intsD r)).length).toNat = p.1 % acc.length := by
      rw [List.length_map, List.length_map]
      show ((p.1 : Int).fmod (acc.length : Int)).toNat = _
      rw [Int.fmod_eq_emod_of_nonneg _ (by (first | lia | omega))]
      (first | lia | omega)
    have hlen : ((acc.map tri).map fun r => D.lst (intsD r)).length = acc.length := by rw [List.length_map, List.length_map]
    have hnn : 0 ≤ (Int.ofNat p.1).fmod ((acc.map tri).map fun r => D.lst (intsD r)).length := Int.fmod_nonneg (by show (0 : Int) ≤ (p.1 : Int); (first | lia | omega)) (by (first | lia | omega))
    rw [← hmod]
    exact Ex.weak (Ex.cons (Ex1.augGrid (rows := acc.map tri) (row := tri (f, c, q)) (j := (Int.ofNat p.1).fmod ((acc.map tri).map fun r => D.lst (intsD r)).length) (c := 2) (r0 := q) (q := p.2.fmod 4) (by decide)
      (EvM.peek (by decide) (Ev.bin (Ev.name rfl) (Ev.call (EvV.blt G (by with_unfolding_all rfl) rfl) kept_blt (EvL.cons (Ev.name rfl) EvL.nil) hR (fn_len_lst (by rw [hlen]; (first | lia | omega)))) (op_mod (by (first | lia | omega)))) (.inl rfl)) hnn (by (first | lia | omega)) (by rw [hmod]; simp [hget]) (Ev.m Ev.int) (by decide) (by decide) rfl (Ev.m (Ev.bin (Ev.name rfl) Ev.int (op_mod (by decide))))) Ex.nil) (sub_add rfl sub_nil)
  · refine Ex.freeze (by decide) ?_
    have e1 : Mu.toD (.grid ((logF script).map tri)) = .lst ((logF script).map rowD) := by
      show D.lst (((logF script).map tri).map fun r => D.lst (intsD r)) = _
      rw [List.map_map]; rfl
    show Ex prog w hB A _ [("log", Mu.toD (.grid ((logF script).map tri))), _] _ _ _
    rw [e1]
    exact Ex.ret (Ex1.return (Ev.name rfl).m)
end
end Mine
set_option maxHeartbeats 400000
namespace Mine

noncomputable def letter (c : Int) : Str := ⟨#[97 + c.toNat]⟩
theorem letter_at {c : Int} (h0 : 0 ≤ c) (h5 : c < 5) : (Str.ofString "abcde").cps[c.toNat]? = some (97 + c.toNat) := by
  have : c = 0 ∨ c = 1 ∨ c = 2 ∨ c = 3 ∨ c = 4 := by (first | lia | omega)
  rcases this with rfl | rfl | rfl | rfl | rfl <;> rfl
noncomputable def RowOk (r : Row) : Prop := 0 ≤ r.1 ∧ r.1 < 6 ∧ 0 ≤ r.2.1 ∧ r.2.1 < 5
noncomputable def e0 : Ent := ⟨0, 0, 0, 0, []⟩
noncomputable def callE (r : Row) : Ent := ⟨1, r.2.2, r.2.1, 2 ^ r.2.1.toNat, [(letter r.2.1, r.2.2)]⟩
noncomputable def entStep (es : List Ent) (r : Row) : List Ent := match es[r.1.toNat]? with
  | some e => es.set r.1.toNat (e.add (callE r))
  | none => es
noncomputable def entriesF (log : List Row) : List Ent := log.foldl entStep (List.replicate 6 e0)
noncomputable def bookF (log : List Row) (f : Int) : Ent :=
  ⟨(log.filter fun r => r.1 == f).length, ((log.filter fun r => r.1 == f).map fun r => r.2.2).sum, ((log.filter fun r => r.1 == f).map fun r => r.2.1).sum, ((log.filter fun r => r.1 == f).map fun r => (2 : Int) ^ r.2.1.toNat).sum,
    (log.filter fun r => r.1 == f).foldl (fun t r => dadd t (letter r.2.1, r.2.2)) []⟩
noncomputable def booksF (log : List Row) : List Ent := (List.range 6).map fun (i : Nat) => bookF log (Int.ofNat i)

section
variable {prog : Program} {w : World} {hB : Heap} {A : Around} {env ce : Env} {ρ ρ₀ : Nm} {μ : List (Str × Mu)} {scope : Scope}

theorem fn_law_entries (G : Gd w.params hB) {n : Nat} {log : List Row} (hl : log.length ≤ 20) (hok : ∀ r ∈ log, RowOk r) : Fn prog w hB (n + 3) (.ref 95) [.lst (log.map rowD)] (.lst ((entriesF log).map Ent.toD)) := by
  refine Fn.of_def (f := 95) (ps := ["log"]) G rfl rfl (by with_unfolding_all rfl) rfl rfl rfl rfl rfl (fun vs h => by obtain ⟨a, rfl⟩ := len1 h; rfl) (by decide) (fun x hx => ?_) (fun A env hR hsc hcl hcd hfr => ?_)
  · rw [List.mem_singleton.mp hx]; exact ⟨by decide, .inl rfl⟩
  obtain ⟨scope, L, gl, cells, qual, func, code, frame, blt⟩ := env
  dsimp only at hsc hcl
  subst hsc hcl
  refine Ex.cons (ρ₁ := [("log", .lst (log.map rowD))]) (μ₁ := [("entries", .lst ((List.replicate 6 e0).map Ent.toD))]) (Ex1.newComp (ρ₀ := []) (rs := (List.range 6).map fun _ => e0.toD) rfl ⟨by decide, .inl rfl⟩ nomu rfl rfl (Ev.call (EvV.blt G (by with_unfolding_all rfl) rfl) kept_type (EvL.cons Ev.int EvL.nil) hR fn_range) (Itr.rng hR.handled (n := 6) (by decide)) (ScOk.of rfl (by decide) rfl) rho_nil
    fun ce hce => Gath.one (.inl ⟨_, _, rfl⟩) (by decide) (Comp1.map fun i hi => ?_)) ?_
  · exact ⟨_, asg_anon (hce.sto (by decide) rfl) (by decide), rfl, Ev.tuple (EvL.cons Ev.int (EvL.cons Ev.int (EvL.cons Ev.int (EvL.cons Ev.int (EvL.cons (Ev.dct0 G.big) EvL.nil))))) (by decide)⟩
  refine Ex.cons (Ex1.for (Ev.m (Ev.name rfl)) (Itr.lst hR.handled) (ForL.fold (σ := List Ent) (R := fun _ => [("log", .lst (log.map rowD))]) (M := fun es => [("entries", .lst (es.map Ent.toD))]) (f := entStep)
    (fun j es => es.length = 6 ∧ ∀ e ∈ es, e.t.length ≤ j) 0 (s₀ := List.replicate 6 e0) ⟨rfl, fun e he => by rw [List.eq_of_mem_replicate he]; exact Nat.le_refl _⟩ (fun j es r hI hj hr => ?_)) (.inr ⟨_, _, _, rfl⟩)) (Ex.freeze (by decide) (Ex.ret (Ex1.return (Ev.name rfl).m)))
  obtain ⟨r1, r2, r3, r4⟩ := hok r hr
  obtain ⟨hI1, hI2⟩ := hI
  have hlt : r.1.toNat < es.length := by (first | lia | omega)
  have hget : es[r.1.toNat]? = some es[r.1.toNat] := List.getElem?_eq_getElem hlt
  generalize he : es[r.1.toNat] = e at hget
  have hem : e ∈ es := List.mem_of_getElem? hget
  have hstep : entStep es r = es.set r.1.toNat (e.add (callE r)) := by unfold entStep; rw [hget]
  rw [hstep]
  have hel := hI2 e hem
  refine ⟨⟨by rw [List.length_set]; exact hI1, fun e' he' => ?_⟩, _, Asg.lst hR.handled rfl (AsgL.cons ⟨by decide, .inl rfl⟩ (hm_one (by decide)) (AsgL.cons ⟨by decide, .inl rfl⟩ (hm_one (by decide)) (AsgL.cons ⟨by decide, .inl rfl⟩ (hm_one (by decide)) AsgL.nil))), ?_⟩
  · rcases List.mem_or_eq_of_mem_set he' with h | rfl
    · exact Nat.le_succ_of_le (hI2 e' h)
    · exact Nat.le_trans (addC_length ..) (by show e.t.length + 1 ≤ j + 1; (first | lia | omega))
  · rw [List.map_set]
    refine Ex.weak (Ex.cons (Ex1.assign (d := (callE r).toD) (Ev.m (Ev.tuple (EvL.cons Ev.int (EvL.cons (Ev.name rfl) (EvL.cons (Ev.name rfl) (EvL.cons (Ev.bin Ev.int (Ev.name rfl) (op_pow r3 (by (first | lia | omega)) (by decide)))
      (EvL.cons (Ev.dct1 G.big (Ev.sub Ev.str (Ev.name rfl) (op_item_str r3 (by (first | lia | omega)) (letter_at r3 r4))) (Ev.name rfl)) EvL.nil))))) (Nat.le_of_ble_eq_true rfl))) ⟨by decide, .inl rfl⟩ (hm_one (by decide)))
      (Ex.cons (Ex1.setLst (k := r.1) (d := (e.add (callE r)).toD) (by decide) (EvM.peek (by decide) (Ev.call (EvV.glob G (by with_unfolding_all rfl)) (kept_K G (by with_unfolding_all rfl)) (EvL.cons (Ev.sub (Ev.name rfl) (Ev.name rfl) (op_item_lst r1 (by (first | lia | omega)) (d := e.toD) (by simp [hget]))) (EvL.cons (Ev.name rfl) EvL.nil)) hR (fn_add_func_stats G (by (first | lia | omega)) (Nat.le_of_ble_eq_true rfl)))
        (.inr ⟨fun _ => nofun, rfl⟩)) (Ev.m (Ev.name rfl)) r1 (by (first | lia | omega)) (by rw [List.length_map]; exact hlt)) Ex.nil)) ?_
    exact sub_add rfl sub_nil
end
end Mine
set_option maxHeartbeats 400000
namespace Mine
section
variable {prog : Program} {w : World} {hB : Heap} {A : Around} {env ce : Env} {ρ ρ₀ : Nm} {μ : List (Str × Mu)} {scope : Scope}

theorem intsD_map {α : Type} (f : α → Int) (l : List α) : intsD (l.map f) = l.map fun a => D.int (f a) := by simp [intsD]

theorem hm_two {x y z : Str} {m m' : Mu} (h : (y == x) = false) (h' : (z == x) = false) : ∀ p ∈ [(y, m), (z, m')], p.1 ≠ x := fun p hp => by
  rcases List.mem_cons.mp hp with rfl | hp
  · exact beq_eq_false_iff_ne.mp h
  · rw [List.mem_singleton.mp hp]; exact beq_eq_false_iff_ne.mp h'

theorem fn_law_books (G : Gd w.params hB) {n : Nat} {log : List Row} (hl : log.length ≤ 20) (hok : ∀ r ∈ log, RowOk r) : Fn prog w hB (n + 1) (.ref 100) [.lst (log.map rowD)] (.lst ((booksF log).map Ent.toD)) := by
  refine Fn.of_def (f := 100) (ps := ["log"]) G rfl rfl (by with_unfolding_all rfl) rfl rfl rfl rfl rfl (fun vs h => by obtain ⟨a, rfl⟩ := len1 h; rfl) (by decide) (fun x hx => ?_) (fun A env hR hsc hcl hcd hfr => ?_)
  · rw [List.mem_singleton.mp hx]; exact ⟨by decide, .inl rfl⟩
  obtain ⟨scope, L, gl, cells, qual, func, code, frame, blt⟩ := env
  dsimp only at hsc hcl
  subst hsc hcl
  have hbooks : booksF log = (List.range 6).foldl (fun bs (i : Nat) => bs ++ [bookF log (Int.ofNat i)]) [] := by
    unfold booksF
    have : ∀ (l : List Nat) (acc : List Ent), l.foldl (fun bs (i : Nat) => bs ++ [bookF log (Int.ofNat i)]) acc = acc ++ l.map fun i => bookF log (Int.ofNat i) := by
      intro l
      induction l with
      | nil => intro acc; simp
      | cons a l ih => intro acc; rw [List.foldl_cons, ih]; simp
    rw [this]; simp
  refine Ex.cons (ρ₁ := [("log", .lst (log.map rowD))]) (μ₁ := [("books", .lst (([] : List Ent).map Ent.toD))]) (Ex1.newLst (EvNew.list EvL.nil (by decide)) ⟨by decide, .inl rfl⟩ nomu rfl) ?_
  refine Ex.cons (Ex1.for (Ev.m (Ev.call (EvV.blt G (by with_unfolding_all rfl) rfl) kept_type (EvL.cons Ev.int EvL.nil) hR fn_range)) (Itr.rng hR.handled (n := 6) (by decide)) (ForL.fold (σ := List Ent) (g := fun i : Nat => D.int (Int.ofNat i)) (R := fun _ => [("log", .lst (log.map rowD))]) (M := fun bs => [("books", .lst (bs.map Ent.toD))]) (f := fun bs (i : Nat) => bs ++ [bookF log (Int.ofNat i)])
    (fun j bs => bs.length ≤ j) 0 (s₀ := []) (Nat.le_refl _) (fun j bs i hI hj hi => ?_)) (.inl ⟨_, _, rfl⟩)) (Ex.freeze (by decide) (by
      show Ex prog w hB A _ [("books", D.lst (List.map Ent.toD ((List.range 6).foldl (fun bs (i : Nat) => bs ++ [bookF log (Int.ofNat i)]) []))), _] [] _ _
      rw [← hbooks]; exact Ex.ret (Ex1.return (Ev.name rfl).m)))
  refine ⟨by simp; (first | lia | omega), _, Asg.name (Storable.cell rfl (by decide) rfl) (hm_one (by decide)), ?_⟩
  have hj6 : j < 6 := by simpa using hj
  generalize hrows : (log.filter fun r => r.1 == Int.ofNat i) = rows
  have hrl : rows.length ≤ 20 := by rw [← hrows]; exact Nat.le_trans (List.length_filter_le ..) hl
  have hrok : ∀ r ∈ rows, RowOk r := fun r hr => by rw [← hrows] at hr; exact hok r (List.mem_filter.mp hr).1
  rw [show (bs ++ [bookF log (Int.ofNat i)]).map Ent.toD = bs.map Ent.toD ++ [(bookF log (Int.ofNat i)).toD] by simp]
  refine Ex.cons (Ex1.assignComp (ρ₀ := [("function", .int (Int.ofNat i))]) (rs := rows.map rowD) rfl ⟨by decide, .inl rfl⟩ (hm_one (by decide)) (Ev.name rfl) (Itr.lst hR.handled) (ScOk.of rfl (by decide) rfl) (rho_add rfl rfl rfl (by decide) rho_nil) fun ce hce => Gath.one (.inl ⟨_, _, rfl⟩) (by rw [List.length_map]; (first | lia | omega))
    (by rw [← hrows]; exact Comp1.filter fun r hr => ⟨_, asg_anon (hce.sto (by decide) rfl) (by decide), rfl, TstL.one (Tst.cmp (Ev.sub (Ev.name rfl) Ev.int (op_item_lst (by decide) (by decide) (d := .int r.1) rfl)) (Ev.name rfl) op_eq), fun _ => Ev.name rfl⟩)) ?_
  refine Ex.cons (Ex1.newDct ⟨by decide, .inl rfl⟩ (hm_one (by decide)) rfl G.big) ?_
  refine Ex.cons (Ex1.for (Ev.m (Ev.name rfl)) (Itr.lst hR.handled) (ForL.fold (σ := List (Str × Int)) (R := fun _ => [("rows", .lst (rows.map rowD)), ("function", .int (Int.ofNat i)), ("log", .lst (log.map rowD))]) (M := fun t => [("table", .dct t), ("books", .lst (bs.map Ent.toD))]) (f := fun t r => dadd t (letter r.2.1, r.2.2))
    (fun j t => t.length ≤ j) 0 (s₀ := []) (Nat.le_refl _) (fun j t r hI hj hr => ?_)) (.inl ⟨_, _, rfl⟩)) ?_
  · obtain ⟨r1, r2, r3, r4⟩ := hrok r hr
    refine ⟨Nat.le_trans (dadd_length ..) (by (first | lia | omega)), _, Asg.name ⟨by decide, .inl rfl⟩ (hm_two (by decide) (by decide)), ?_⟩
    refine Ex.cons (Ex1.assign (Ev.m (Ev.sub Ev.str (Ev.sub (Ev.name rfl) Ev.int (op_item_lst (by decide) (by decide) (d := .int r.2.1) rfl)) (op_item_str r3 (by (first | lia | omega)) (letter_at r3 r4)))) ⟨by decide, .inl rfl⟩ (hm_two (by decide) (by decide))) ?_
    refine Ex.cons (Ex1.setDct (k := letter r.2.1) (d := (dget t (letter r.2.1)).getD 0 + r.2.2) (by decide) (EvM.peek (by decide) (Ev.bin (Ev.meth F.plainAttrs_dict F.slot_dict_get F.type_dict_get ht_dct (Ev.name rfl) (EvL.cons (Ev.name rfl) (EvL.cons Ev.int EvL.nil)) hR fn_dict_get) (Ev.sub (Ev.name rfl) Ev.int (op_item_lst (by decide) (by decide) (d := .int r.2.2) rfl)) op_add) (.inl rfl)) (Ev.m (Ev.name rfl)) (by (first | lia | omega))) ?_
    exact Ex.weak Ex.nil (sub_add rfl (sub_add rfl (sub_add rfl sub_nil)))
  have hcomp : ∀ (f : Row → Int), rows.length ≤ 20 := fun _ => hrl
  refine Ex.cons (Ex1.assign (d := .lst [.int (rows.map fun r => r.2.2).sum, .int (rows.map fun r => r.2.1).sum, .int (rows.map fun r => (2 : Int) ^ r.2.1.toNat).sum]) (Ev.m (Ev.list (EvL.cons (Ev.call (EvV.blt G (by with_unfolding_all rfl) rfl) kept_blt (EvL.cons (d := .lst (intsD (rows.map fun r => r.2.2))) ?_ EvL.nil) hR fn_sum)
    (EvL.cons (Ev.call (EvV.blt G (by with_unfolding_all rfl) rfl) kept_blt (EvL.cons (d := .lst (intsD (rows.map fun r => r.2.1))) ?_ EvL.nil) hR fn_sum) (EvL.cons (Ev.call (EvV.blt G (by with_unfolding_all rfl) rfl) kept_blt (EvL.cons (d := .lst (intsD (rows.map fun r => (2 : Int) ^ r.2.1.toNat))) ?_ EvL.nil) hR fn_sum) EvL.nil))) (Nat.le_of_ble_eq_true rfl))) ⟨by decide, .inl rfl⟩ (hm_two (by decide) (by decide))) ?_
  · rw [intsD_map]
    exact Ev.comp (ρ₀ := []) (Ev.name rfl) (Itr.lst hR.handled) (ScOk.of rfl (by decide) rfl) rho_nil fun ce hce => Gath.one (.inl ⟨_, _, rfl⟩) (by rw [List.length_map]; (first | lia | omega)) (Comp1.map fun r hr => ⟨_, asg_anon (hce.sto (by decide) rfl) (by decide), rfl, Ev.sub (Ev.name rfl) Ev.int (op_item_lst (by decide) (by decide) rfl)⟩)
  · rw [intsD_map]
    exact Ev.comp (ρ₀ := []) (Ev.name rfl) (Itr.lst hR.handled) (ScOk.of rfl (by decide) rfl) rho_nil fun ce hce => Gath.one (.inl ⟨_, _, rfl⟩) (by rw [List.length_map]; (first | lia | omega)) (Comp1.map fun r hr => ⟨_, asg_anon (hce.sto (by decide) rfl) (by decide), rfl, Ev.sub (Ev.name rfl) Ev.int (op_item_lst (by decide) (by decide) rfl)⟩)
  · rw [intsD_map]
    exact Ev.comp (ρ₀ := []) (Ev.name rfl) (Itr.lst hR.handled) (ScOk.of rfl (by decide) rfl) rho_nil fun ce hce => Gath.one (.inl ⟨_, _, rfl⟩) (by rw [List.length_map]; (first | lia | omega)) (Comp1.map fun r hr => by
      obtain ⟨r1, r2, r3, r4⟩ := hrok r hr
      exact ⟨_, asg_anon (hce.sto (by decide) rfl) (by decide), rfl, Ev.bin Ev.int (Ev.sub (Ev.name rfl) Ev.int (op_item_lst (by decide) (by decide) (d := .int r.2.1) rfl)) (op_pow r3 (by (first | lia | omega)) (by decide))⟩)
  refine Ex.freeze (by decide) ?_
  have hbk : (bookF log (Int.ofNat i)).toD = .tup [.int rows.length, .int (rows.map fun r => r.2.2).sum, .int (rows.map fun r => r.2.1).sum, .int (rows.map fun r => (2 : Int) ^ r.2.1.toNat).sum, .dct (rows.foldl (fun t r => dadd t (letter r.2.1, r.2.2)) [])] := by
    unfold bookF Ent.toD; rw [hrows]
  rw [hbk]
  exact Ex.cons (Ex1.append (by decide) (Ev.m (Ev.tuple (EvL.cons (Ev.call (EvV.blt G (by with_unfolding_all rfl) rfl) kept_blt (EvL.cons (Ev.name rfl) EvL.nil) hR (fn_len_map (by (first | lia | omega)))) (EvL.cons (Ev.sub (Ev.name rfl) Ev.int (op_item_lst (by decide) (by decide) rfl)) (EvL.cons (Ev.sub (Ev.name rfl) Ev.int (op_item_lst (by decide) (by decide) rfl)) (EvL.cons (Ev.sub (Ev.name rfl) Ev.int (op_item_lst (by decide) (by decide) rfl)) (EvL.cons (Ev.name rfl) EvL.nil)))))
    (Nat.le_of_ble_eq_true rfl))) (by rw [List.length_map]; (first | lia | omega))) (Ex.weak Ex.nil (sub_add rfl sub_nil))
end
end Mine
set_option maxHeartbeats 400000
namespace Mine

noncomputable def laidStep (sel : List (Int × Int)) (acc : List (List Sc)) (row : List Sc) : List (List Sc) :=
  acc.take ((acc.map fun one => cmpF one row sel).count (-1)) ++ [row] ++ acc.drop ((acc.map fun one => cmpF one row sel).count (-1))
noncomputable def laidF (sel : List (Int × Int)) (rows : List (List Sc)) : List (List Sc) := rows.foldl (laidStep sel) []

noncomputable def selC : List (Int × Int) := [(0, 1), (1, 1)]
noncomputable def selF : List (Int × Int) := [(1, 1), (0, 1)]
noncomputable def lineS (p : Int × Int) : List Sc := [.i p.1, .i p.2]
noncomputable def crossIn (c : Int) (line other : Int × Int) : Int := if cmpF (lineS line) (lineS other) selC != cmpF (lineS line) (lineS other) selF then c + 1 else c
noncomputable def crossAt (lines : List (Int × Int)) (c : Int) (k : Nat) : Int := match lines[k]? with
  | some other => (lines.take k).foldl (fun c line => crossIn c line other) c
  | none => c
noncomputable def crossF (lines : List (Int × Int)) : Int := (List.range lines.length).foldl (crossAt lines) 0

section
variable {prog : Program} {w : World} {hB : Heap} {A : Around} {env ce : Env} {ρ ρ₀ : Nm} {μ : List (Str × Mu)} {scope : Scope}

theorem fn_law_laid (G : Gd w.params hB) {n : Nat} {sel : List (Int × Int)} {rows : List (List Sc)} (hl : rows.length ≤ 100) (hfit : ∀ a ∈ rows, ∀ b ∈ rows, Fit a b sel) : Fn prog w hB (n + 2) (.ref 112) [.cmp sel, .lst (rows.map tupS)] (.lst ((laidF sel rows).map tupS)) := by
  refine Fn.of_def (f := 112) (ps := ["keys", "rows"]) G rfl rfl (by with_unfolding_all rfl) rfl rfl rfl rfl rfl (fun vs h => by obtain ⟨a, b, rfl⟩ := len2 h; rfl) (by decide) (fun x hx => ?_) (fun A env hR hsc hcl hcd hfr => ?_)
  · simp only [List.mem_cons, List.not_mem_nil, or_false] at hx
    rcases hx with rfl | rfl
    · exact ⟨by decide, .inr ⟨rfl, fun k => rfl⟩⟩
    · exact ⟨by decide, .inl rfl⟩
  obtain ⟨scope, L, gl, cells, qual, func, code, frame, blt⟩ := env
  dsimp only at hsc hcl
  subst hsc hcl
  refine Ex.cons (Ex1.assign (d := .lst (([] : List (List Sc)).map tupS)) (Ev.m (Ev.list EvL.nil (by decide))) ⟨by decide, .inl rfl⟩ nomu) ?_
  refine Ex.cons (Ex1.for (Ev.m (Ev.name rfl)) (Itr.lst hR.handled) (ForL.fold (σ := List (List Sc)) (R := fun acc => [("laid", .lst (acc.map tupS)), ("keys", .cmp sel), ("rows", .lst (rows.map tupS))]) (M := fun _ => []) (f := laidStep sel)
    (fun j acc => acc.length ≤ j ∧ ∀ a ∈ acc, a ∈ rows) 0 (s₀ := []) ⟨Nat.le_refl _, fun _ h => nomatch h⟩ (fun j acc row hI hj hrow => ?_)) (.inl ⟨_, _, rfl⟩)) (Ex.ret (Ex1.return (Ev.name rfl).m))
  obtain ⟨hI1, hI2⟩ := hI
  generalize hk : (acc.map fun one => cmpF one row sel).count (-1) = k
  have hstep : laidStep sel acc row = acc.take k ++ [row] ++ acc.drop k := by unfold laidStep; rw [hk]
  rw [hstep]
  refine ⟨⟨by simp; (first | lia | omega), fun a ha => ?_⟩, _, Asg.name (Storable.cell rfl (by decide) rfl) nomu, ?_⟩
  · simp only [List.mem_append, List.mem_singleton] at ha
    rcases ha with (ha | rfl) | ha
    · exact hI2 a (List.mem_of_mem_take ha)
    · exact hrow
    · exact hI2 a (List.mem_of_mem_drop ha)
  · refine Ex.cons (Ex1.assign (d := .int (k : Nat)) (Ev.m (Ev.meth (d₀ := .lst (intsD (acc.map fun one => cmpF one row sel))) F.plainAttrs_list F.slot_list_count F.type_list_count ht_lst ?_ (EvL.cons (Ev.neg Ev.int) EvL.nil) hR ?_)) ⟨by decide, .inl rfl⟩ nomu) ?_
    · rw [intsD_map]
      exact Ev.comp (ρ₀ := [("keys", .cmp sel), ("row", tupS row)]) (Ev.name rfl) (Itr.lst hR.handled) (ScOk.of rfl (by decide) rfl) (rho_add rfl rfl rfl (by decide) (rho_add rfl rfl rfl (by decide) rho_nil)) fun ce hce => Gath.one (.inl ⟨_, _, rfl⟩) (by rw [List.length_map]; (first | lia | omega))
        (Comp1.map fun one hone => ⟨_, asg_anon (hce.sto (by decide) rfl) (by decide), rfl, Ev.compareCall G (Ev.name rfl) (EvL.cons (Ev.name rfl) (EvL.cons (Ev.name rfl) EvL.nil)) hR (fn_compare G (hfit one (hI2 one hone) row hrow))⟩)
    · rw [← hk]; exact fn_count
    · have e1 : (acc.take k ++ [row] ++ acc.drop k).map tupS = (acc.take k).map tupS ++ [tupS row] ++ (acc.drop k).map tupS := by simp
      rw [e1]
      refine Ex.cons (Ex1.assign (Ev.m (Ev.bin (Ev.bin (Ev.partToM (items := acc) (g := tupS) (k := (k : Int)) (Ev.name rfl) (Ev.name rfl) (by (first | lia | omega)) (by (first | lia | omega))) (Ev.list (EvL.cons (Ev.name rfl) EvL.nil) (Nat.le_of_ble_eq_true rfl)) (op_cat ?_)) (Ev.partFromM (items := acc) (g := tupS) (k := (k : Int)) (Ev.name rfl) (Ev.name rfl) (by (first | lia | omega)) (by (first | lia | omega))) (op_cat ?_))) ⟨by decide, .inl rfl⟩ nomu) ?_
      · simp; (first | lia | omega)
      · simp; (first | lia | omega)
      · exact Ex.weak Ex.nil (sub_add rfl (sub_add rfl (sub_add rfl sub_nil)))

theorem fit_line (a b : Int × Int) : Fit (lineS a) (lineS b) selC ∧ Fit (lineS a) (lineS b) selF := by
  constructor
  all_goals
    intro p hp
    simp only [selC, selF, List.mem_cons, List.not_mem_nil, or_false] at hp
    rcases hp with rfl | rfl <;> exact ⟨by decide, by decide, _, _, rfl, rfl, rfl⟩

theorem fn_law_crossed (G : Gd w.params hB) {n : Nat} {lines : List (Int × Int)} (hl : lines.length ≤ 1000) : Fn prog w hB (n + 3) (.ref 138) [.lst (lines.map fun p => tupS (lineS p))] (.int (crossF lines)) := by
  refine Fn.of_def (f := 138) (ps := ["lines"]) G rfl rfl (by with_unfolding_all rfl) rfl rfl rfl rfl rfl (fun vs h => by obtain ⟨a, rfl⟩ := len1 h; rfl) (by decide) (fun x hx => ?_) (fun A env hR hsc hcl hcd hfr => ?_)
  · rw [List.mem_singleton.mp hx]; exact ⟨by decide, .inl rfl⟩
  obtain ⟨scope, L, gl, cells, qual, func, code, frame, blt⟩ := env
  dsimp only at hsc hcl
  subst hsc hcl
  have two : ∀ {a b : Int}, [D.int a, D.int b].length ≤ 1000 := Nat.le_of_ble_eq_true rfl
  refine Ex.cons (Ex1.assign (d := .cmp selC) (Ev.m (Ev.call (EvV.glob G (by with_unfolding_all rfl)) (kept_K G (by with_unfolding_all rfl)) (EvL.cons (d := selD selC) (Ev.list (EvL.cons (Ev.tuple (EvL.cons Ev.int (EvL.cons Ev.int EvL.nil)) two) (EvL.cons (Ev.tuple (EvL.cons Ev.int (EvL.cons Ev.int EvL.nil)) two) EvL.nil)) (Nat.le_of_ble_eq_true rfl)) EvL.nil) hR (fn_TupleComp G))) ⟨by decide, .inl rfl⟩ nomu) ?_
  refine Ex.cons (Ex1.assign (d := .cmp selF) (Ev.m (Ev.call (EvV.glob G (by with_unfolding_all rfl)) (kept_K G (by with_unfolding_all rfl)) (EvL.cons (d := selD selF) (Ev.list (EvL.cons (Ev.tuple (EvL.cons Ev.int (EvL.cons Ev.int EvL.nil)) two) (EvL.cons (Ev.tuple (EvL.cons Ev.int (EvL.cons Ev.int EvL.nil)) two) EvL.nil)) (Nat.le_of_ble_eq_true rfl)) EvL.nil) hR (fn_TupleComp G))) ⟨by decide, .inl rfl⟩ nomu) ?_
  refine Ex.cons (Ex1.assign (d := .int 0) (Ev.m Ev.int) ⟨by decide, .inl rfl⟩ nomu) ?_
  refine Ex.cons (Ex1.for (Ev.m (Ev.call (EvV.blt G (by with_unfolding_all rfl) rfl) kept_type (EvL.cons (Ev.call (EvV.blt G (by with_unfolding_all rfl) rfl) kept_blt (EvL.cons (Ev.name rfl) EvL.nil) hR (fn_len_map (by (first | lia | omega)))) EvL.nil) hR fn_range)) (Itr.rng hR.handled (by (first | lia | omega)))
    (ForL.fold (σ := Int) (items := List.range lines.length) (g := fun i : Nat => D.int (Int.ofNat i)) (R := fun c => [("crossed", .int c), ("by_functions", .cmp selF), ("by_callers", .cmp selC), ("lines", .lst (lines.map fun p => tupS (lineS p)))]) (M := fun _ => []) (f := crossAt lines) (fun _ _ => True) 0 (s₀ := 0) trivial (fun j c k _ hj hk => ?_)) (.inl ⟨_, _, rfl⟩)) (Ex.ret (Ex1.return (Ev.name rfl).m))
  have hkl : k < lines.length := List.mem_range.mp hk
  have hget : lines[k]? = some lines[k] := List.getElem?_eq_getElem hkl
  generalize lines[k] = other at hget
  have hstep : crossAt lines c k = (lines.take k).foldl (fun c line => crossIn c line other) c := by unfold crossAt; rw [hget]
  rw [hstep]
  refine ⟨trivial, _, Asg.name ⟨by decide, .inl rfl⟩ nomu, ?_⟩
  refine Ex.weak (Ex.cons (Ex1.for (Ev.m (Ev.partToM (items := lines) (g := fun p => tupS (lineS p)) (k := Int.ofNat k) (Ev.name rfl) (Ev.name rfl) (by show (0 : Int) ≤ (k : Int); (first | lia | omega)) (by (first | lia | omega)))) (Itr.lst hR.handled)
    (ForL.fold (σ := Int) (items := lines.take k) (g := fun p => tupS (lineS p)) (R := fun c => [("k", .int (Int.ofNat k)), ("crossed", .int c), ("by_functions", .cmp selF), ("by_callers", .cmp selC), ("lines", .lst (lines.map fun p => tupS (lineS p)))]) (M := fun _ => []) (f := fun c line => crossIn c line other) (fun _ _ => True) 0 (s₀ := c) trivial (fun j c line _ hj hline => ?_)) (.inl ⟨_, _, rfl⟩)) Ex.nil) (sub_add rfl (sub_add rfl (sub_add rfl (sub_add rfl sub_nil))))
  refine ⟨trivial, _, Asg.name ⟨by decide, .inl rfl⟩ nomu, ?_⟩
  have hitem : (lines.map fun p => tupS (lineS p))[(Int.ofNat k).toNat]? = some (tupS (lineS other)) := by
    show (lines.map fun p => tupS (lineS p))[k]? = _
    rw [List.getElem?_map, hget]; rfl
  have hk0 : (0 : Int) ≤ Int.ofNat k := by show (0 : Int) ≤ (k : Int); (first | lia | omega)
  have hk63 : Int.ofNat k < 2 ^ 63 := by show (k : Int) < 2 ^ 63; (first | lia | omega)
  refine Ex.if1 (b := cmpF (lineS line) (lineS other) selC != cmpF (lineS line) (lineS other) selF) (Tst.m (Tst.cmp (Ev.compareCall G (Ev.name rfl) (EvL.cons (Ev.name rfl) (EvL.cons (Ev.sub (Ev.name rfl) (Ev.name rfl) (op_item_lst hk0 hk63 hitem)) EvL.nil)) hR (fn_compare G (fit_line line other).1))
    (Ev.compareCall G (Ev.name rfl) (EvL.cons (Ev.name rfl) (EvL.cons (Ev.sub (Ev.name rfl) (Ev.name rfl) (op_item_lst hk0 hk63 hitem)) EvL.nil)) hR (fn_compare G (fit_line line other).2)) op_ne)) (fun hb => ?_) (fun hb => ?_)
  · rw [show crossIn c line other = c + 1 by unfold crossIn; rw [if_pos hb]]
    exact Ex.cons (Ex1.aug rfl (Ev.m Ev.int) op_iadd ⟨by decide, .inl rfl⟩ nomu) (Ex.weak Ex.nil (sub_add rfl (sub_add rfl (sub_add rfl (sub_add rfl (sub_add rfl sub_nil))))))
  · rw [show crossIn c line other = c by unfold crossIn; rw [if_neg (by rw [hb]; decide)]]
    exact Ex.weak Ex.nil (sub_add rfl (sub_add rfl (sub_add rfl (sub_add rfl (sub_add rfl sub_nil)))))
end
end Mine
set_option maxHeartbeats 400000
namespace Mine
section
variable {prog : Program} {w : World} {hB : Heap}
theorem fn_sorted_ints {n : Nat} {ns : List Int} (hz : ns.length < 64) : Fn prog w hB n (.builtin "sorted") [.lst (intsD ns)] (.lst (intsD (sortI ns))) := fun A V s vs E hR hlow hb hV r => by
  refine RepAll.consE (fun r₁ r₂ => ?_) r
  (first | refine RepAll.nilE ?_ r₂ | refine Rep.intE (fun _ => ?_) r₂ | refine Rep.strE (fun _ => ?_) r₂ | refine Rep.boolE ?_ r₂ | cases r₂)
  refine Rep.lstE (fun {a us m} e rr => ?_) r₁
  have hi := rr.ints
  have hlen : us.length = ns.length := by have := rr.length; simpa [intsD] using this
  refine sorted_ints (isList_of hV e) hi (by (first | lia | omega)) fun out ns' h1 h2 h3 => ?_
  obtain ⟨e', he⟩ := sortedAll_at s.heap us out
  have hk : (sortedAll s.heap us out).get? (s.heap.objs.size + 1) = some (lstObj out.toList e') := he
  have hs : ns' = sortI ns := eq_sortI h2 h3
  exact ⟨V.put (s.heap.objs.size + 1) (lstObj out.toList e'), ExtF.of_keep1 (t := s.toks) hV (fun _ _ => sortedAll_old) (get_size_none _ (Nat.le_succ _)) hk, .lst (Vw.put_self ..) (RepAll.of_ints (hs ▸ h1))⟩
end

section
variable {prog : Program} {w : World} {hB : Heap} {A : Around} {env ce : Env} {ρ ρ₀ : Nm} {μ : List (Str × Mu)} {scope : Scope}
theorem sortI_length (ns : List Int) : (sortI ns).length = ns.length := (sortI_perm ns).length_eq

theorem fn_median_low (G : Gd w.params hB) {n : Nat} {c : List Int} {m : Int} (hz : c.length < 64) (hne : 0 < c.length) (hm : (sortI c)[(c.length - 1) / 2]? = some m) : Fn prog w hB (n + 1) (.ref 76) [.lst (intsD c)] (.int m) := by
  refine Fn.of_def (f := 76) (ps := ["data"]) G rfl rfl (by with_unfolding_all rfl) rfl rfl rfl rfl rfl (fun vs h => by obtain ⟨a, rfl⟩ := len1 h; rfl) (by decide) (fun x hx => ?_) (fun A env hR hsc hcl hcd hfr => ?_)
  · rw [List.mem_singleton.mp hx]; exact ⟨by decide, .inl rfl⟩
  obtain ⟨scope, L, gl, cells, qual, func, code, frame, blt⟩ := env
  dsimp only at hsc hcl
  subst hsc hcl
  have hl := sortI_length c
  refine Ex.cons (Ex1.assign (Ev.m (Ev.call (EvV.blt G (by with_unfolding_all rfl) rfl) kept_blt (EvL.cons (Ev.name rfl) EvL.nil) hR (fn_sorted_ints hz))) ⟨by decide, .inl rfl⟩ nomu) ?_
  refine Ex.cons (Ex1.assign (Ev.m (Ev.call (EvV.blt G (by with_unfolding_all rfl) rfl) kept_blt (EvL.cons (Ev.name rfl) EvL.nil) hR (fn_len_map (g := D.int) (items := sortI c) (by (first | lia | omega))))) ⟨by decide, .inl rfl⟩ nomu) ?_
  have h0 : (((sortI c).length : Int) == 0) = false := by simpa using (by (first | lia | omega) : ((sortI c).length : Int) ≠ 0)
  refine Ex.cons (Ex1.ifF (Tst.m (Tst.cmp (Ev.name rfl) Ev.int (h0 ▸ op_eq))) Ex.nil) ?_
  have hd : ((sortI c).length : Int).fdiv 2 = ((sortI c).length / 2 : Nat) := by rw [Int.fdiv_eq_ediv_of_nonneg _ (by (first | lia | omega))]; (first | lia | omega)
  have hf : ((sortI c).length : Int).fmod 2 = ((sortI c).length % 2 : Nat) := by rw [Int.fmod_eq_emod_of_nonneg _ (by (first | lia | omega))]; (first | lia | omega)
  refine Ex.if1 (b := ((sortI c).length : Int).fmod 2 == 1) (Tst.m (Tst.cmp (Ev.bin (Ev.name rfl) Ev.int (op_mod (by decide))) Ev.int op_eq)) (fun hb => ?_) (fun hb => ?_)
  · have hb' : ((sortI c).length : Int).fmod 2 = 1 := by simpa using hb
    refine Ex.ret (Ex1.return (Ev.m (Ev.sub (Ev.name rfl) (Ev.bin (Ev.name rfl) Ev.int (op_div (by decide) (PyProof.noPylong_small (by decide)))) (op_item_lst (by (first | lia | omega)) (by (first | lia | omega)) ?_))))
    have : (((sortI c).length : Int).fdiv 2).toNat = (c.length - 1) / 2 := by (first | lia | omega)
    rw [this]; unfold intsD; rw [List.getElem?_map, hm]; rfl
  · have hb' : ((sortI c).length : Int).fmod 2 ≠ 1 := by simpa using hb
    refine Ex.ret (Ex1.return (Ev.m (Ev.sub (Ev.name rfl) (Ev.bin (Ev.bin (Ev.name rfl) Ev.int (op_div (by decide) (PyProof.noPylong_small (by decide)))) Ev.int op_sub) (op_item_lst (by (first | lia | omega)) (by (first | lia | omega)) ?_))))
    have : (((sortI c).length : Int).fdiv 2 - 1).toNat = (c.length - 1) / 2 := by (first | lia | omega)
    rw [this]; unfold intsD; rw [List.getElem?_map, hm]; rfl

theorem fn_median_high (G : Gd w.params hB) {n : Nat} {c : List Int} {m : Int} (hz : c.length < 64) (hne : 0 < c.length) (hm : (sortI c)[c.length / 2]? = some m) : Fn prog w hB (n + 1) (.ref 83) [.lst (intsD c)] (.int m) := by
  refine Fn.of_def (f := 83) (ps := ["data"]) G rfl rfl (by with_unfolding_all rfl) rfl rfl rfl rfl rfl (fun vs h => by obtain ⟨a, rfl⟩ := len1 h; rfl) (by decide) (fun x hx => ?_) (fun A env hR hsc hcl hcd hfr => ?_)
  · rw [List.mem_singleton.mp hx]; exact ⟨by decide, .inl rfl⟩
  obtain ⟨scope, L, gl, cells, qual, func, code, frame, blt⟩ := env
  dsimp only at hsc hcl
  subst hsc hcl
  have hl := sortI_length c
  refine Ex.cons (Ex1.assign (Ev.m (Ev.call (EvV.blt G (by with_unfolding_all rfl) rfl) kept_blt (EvL.cons (Ev.name rfl) EvL.nil) hR (fn_sorted_ints hz))) ⟨by decide, .inl rfl⟩ nomu) ?_
  refine Ex.cons (Ex1.assign (Ev.m (Ev.call (EvV.blt G (by with_unfolding_all rfl) rfl) kept_blt (EvL.cons (Ev.name rfl) EvL.nil) hR (fn_len_map (g := D.int) (items := sortI c) (by (first | lia | omega))))) ⟨by decide, .inl rfl⟩ nomu) ?_
  have h0 : (((sortI c).length : Int) == 0) = false := by simpa using (by (first | lia | omega) : ((sortI c).length : Int) ≠ 0)
  refine Ex.cons (Ex1.ifF (Tst.m (Tst.cmp (Ev.name rfl) Ev.int (h0 ▸ op_eq))) Ex.nil) ?_
  have hd : ((sortI c).length : Int).fdiv 2 = ((sortI c).length / 2 : Nat) := by rw [Int.fdiv_eq_ediv_of_nonneg _ (by (first | lia | omega))]; (first | lia | omega)
  refine Ex.ret (Ex1.return (Ev.m (Ev.sub (Ev.name rfl) (Ev.bin (Ev.name rfl) Ev.int (op_div (by decide) (PyProof.noPylong_small (by decide)))) (op_item_lst (by (first | lia | omega)) (by (first | lia | omega)) ?_))))
  have : (((sortI c).length : Int).fdiv 2).toNat = c.length / 2 := by (first | lia | omega)
  rw [this]; unfold intsD; rw [List.getElem?_map, hm]; rfl
end
end Mine
set_option maxHeartbeats 400000
namespace Mine
section
variable {prog : Program} {w : World} {hB : Heap} {A : Around} {env ce : Env} {ρ ρ₀ : Nm} {μ : List (Str × Mu)} {scope : Scope}
theorem Tst.and2 {e₁ e₂ : Expr} {pos : Pos} {b₁ b₂ : Bool} (h₁ : Tst prog w hB A env ρ e₁ b₁) (h₂ : Tst prog w hB A env ρ e₂ b₂) : Tst prog w hB A env ρ (.BoolOp .And [e₁, e₂] pos) (b₁ && b₂) := by
  cases b₁ with
  | true => exact Tst.and_r h₁ h₂
  | false => exact Tst.and_l h₁
theorem Ex1.ifF' {test : Expr} {body orelse : List Stmt} {pos : Pos} {b : Bool} {o : Out} (h : TstM prog w hB A env ρ μ test b) (hb' : b = false) (hb : Ex prog w hB A env ρ μ orelse o) : Ex1 prog w hB A env ρ μ (.If test body orelse pos) o := Ex1.ifF (hb' ▸ h) hb
end

noncomputable def key3 (r : List Sc) : Int := match (r[3]? : Option Sc) with
  | some (Sc.i k) => k
  | _ => 0
noncomputable def colAt (cols : List (List Int)) (k : Int) : List Int := cols.getD k.toNat []
noncomputable def totalAt (cols : List (List Int)) (order : List Int) (t : Int) (k : Nat) : Int := match order[k]? with
  | some o => (order.take k).foldl (fun t one => t + overF (colAt cols one) (colAt cols o)) t
  | none => t
noncomputable def totalF (cols : List (List Int)) (order : List Int) : Int := (List.range order.length).foldl (totalAt cols order) 0
noncomputable def linesF (cols : List (List Int)) (order : List Int) : List (Int × Int) := (sortI order).flatMap fun k => (colAt cols k).map fun p => (p, ((order.idxOf k : Nat) : Int))
/-- two columns in this order -/
noncomputable def PairOk (a b : List Int) : Prop := ¬ (0 < overF a b ∧ 3 * overF b a ≤ overF a b) ∧ ¬ (max a.length b.length < 3 ∧ overF b a < overF a b)

section
variable {prog : Program} {w : World} {hB : Heap} {A : Around} {env ce : Env} {ρ ρ₀ : Nm} {μ : List (Str × Mu)} {scope : Scope}

theorem fn_law_well (G : Gd w.params hB) {n : Nat} {cols : List (List Int)} {rows : List (List Sc)} (hc : cols.length = 6) (hcl5 : ∀ c ∈ cols, c.length ≤ 10) (hrl : rows.length ≤ 10) (h3 : ∀ r ∈ rows, r[3]? = some (.i (key3 r)) ∧ 0 ≤ key3 r ∧ key3 r < 6)
    (hok : ∀ k o one, (rows.map key3)[k]? = some o → one ∈ (rows.map key3).take k → PairOk (colAt cols one) (colAt cols o)) :
    Fn prog w hB (n + 4) (.ref 148) [.lst (cols.map fun c => .lst (intsD c)), .lst (rows.map tupS)] (.bool (totalF cols (rows.map key3) == crossF (linesF cols (rows.map key3)))) := by
  refine Fn.of_def (f := 148) (ps := ["columns", "laid"]) G rfl rfl (by with_unfolding_all rfl) rfl rfl rfl rfl rfl (fun vs h => by obtain ⟨a, b, rfl⟩ := len2 h; rfl) (by decide) (fun x hx => ?_) (fun A env hR hsc hcl hcd hfr => ?_)
  · simp only [List.mem_cons, List.not_mem_nil, or_false] at hx
    rcases hx with rfl | rfl
    · exact ⟨by decide, .inr ⟨rfl, fun k => rfl⟩⟩
    · exact ⟨by decide, .inl rfl⟩
  obtain ⟨scope, L, gl, cells, qual, func, code, frame, blt⟩ := env
  dsimp only at hsc hcl
  subst hsc hcl
  have hcolget : ∀ k : Int, 0 ≤ k → k < 6 → (cols.map fun c => D.lst (intsD c))[k.toNat]? = some (.lst (intsD (colAt cols k))) := fun k h0 h6 => by
    have hlt : k.toNat < cols.length := by (first | lia | omega)
    rw [List.getElem?_map, List.getElem?_eq_getElem hlt]
    simp [colAt, hlt]
  have hcollen : ∀ k : Int, (colAt cols k).length ≤ 10 := fun k => by
    unfold colAt
    by_cases h : k.toNat < cols.length
    · simp [List.getD, List.getElem?_eq_getElem h]; exact hcl5 _ (List.getElem_mem h)
    · simp [List.getD, List.getElem?_eq_none (Nat.le_of_not_lt h)]
  refine Ex.cons (Ex1.assign (d := .lst (intsD (rows.map key3))) (Ev.m ?_) (Storable.cell rfl (by decide) rfl) nomu) ?_
  · rw [intsD_map]
    exact Ev.comp (ρ₀ := []) (Ev.name rfl) (Itr.lst hR.handled) (ScOk.of rfl (by decide) rfl) rho_nil fun ce hce => Gath.one (.inl ⟨_, _, rfl⟩) (by rw [List.length_map]; (first | lia | omega))
      (Comp1.map fun r hr => ⟨_, asg_anon (hce.sto (by decide) rfl) (by decide), rfl, Ev.sub (Ev.name rfl) Ev.int (op_item_tup (by decide) (by decide) (by show (r.map Sc.toD)[3]? = _; rw [List.getElem?_map, (h3 r hr).1]; rfl))⟩)
  have hord : ∀ k ∈ rows.map key3, 0 ≤ k ∧ k < 6 := fun k hk => by
    obtain ⟨r, hr, rfl⟩ := List.mem_map.mp hk
    exact (h3 r hr).2
  have hol : (rows.map key3).length ≤ 10 := by rw [List.length_map]; exact hrl
  generalize rows.map key3 = order at hok hord hol ⊢
  refine Ex.cons (Ex1.assign (d := .int 0) (Ev.m Ev.int) ⟨by decide, .inl rfl⟩ nomu) ?_
  refine Ex.cons (Ex1.for (Ev.m (Ev.call (EvV.blt G (by with_unfolding_all rfl) rfl) kept_type (EvL.cons (Ev.call (EvV.blt G (by with_unfolding_all rfl) rfl) kept_blt (EvL.cons (Ev.name rfl) EvL.nil) hR (fn_len_map (g := D.int) (items := order) (by (first | lia | omega)))) EvL.nil) hR fn_range)) (Itr.rng hR.handled (by (first | lia | omega)))
    (ForL.fold (σ := Int) (items := List.range order.length) (g := fun i : Nat => D.int (Int.ofNat i)) (R := fun c => [("total", .int c), ("order", .lst (intsD order)), ("columns", .lst (cols.map fun c => .lst (intsD c))), ("laid", .lst (rows.map tupS))]) (M := fun _ => []) (f := totalAt cols order) (fun _ _ => True) 0 (s₀ := 0) trivial (fun j t k _ hj hk => ?_)) (.inl ⟨_, _, rfl⟩)) ?_
  · have hkl : k < order.length := List.mem_range.mp hk
    have hget : order[k]? = some order[k] := List.getElem?_eq_getElem hkl
    generalize order[k] = o at hget
    have hstep : totalAt cols order t k = (order.take k).foldl (fun t one => t + overF (colAt cols one) (colAt cols o)) t := by unfold totalAt; rw [hget]
    rw [hstep]
    obtain ⟨o0, o6⟩ := hord o (List.mem_of_getElem? hget)
    have hitem : (intsD order)[(Int.ofNat k).toNat]? = some (.int o) := by
      show (order.map D.int)[k]? = _
      rw [List.getElem?_map, hget]; rfl
    have hk0 : (0 : Int) ≤ Int.ofNat k := by show (0 : Int) ≤ (k : Int); (first | lia | omega)
    have hk63 : Int.ofNat k < 2 ^ 63 := by show (k : Int) < 2 ^ 63; (first | lia | omega)
    refine ⟨trivial, _, Asg.name ⟨by decide, .inl rfl⟩ nomu, ?_⟩
    refine Ex.weak (Ex.cons (Ex1.for (Ev.m (Ev.partToM (items := order) (g := D.int) (k := Int.ofNat k) (Ev.name rfl) (Ev.name rfl) hk0 (by (first | lia | omega)))) (Itr.lst hR.handled)
      (ForL.fold (σ := Int) (items := order.take k) (g := D.int) (R := fun c => [("k", .int (Int.ofNat k)), ("total", .int c), ("order", .lst (intsD order)), ("columns", .lst (cols.map fun c => .lst (intsD c))), ("laid", .lst (rows.map tupS))]) (M := fun _ => []) (f := fun t one => t + overF (colAt cols one) (colAt cols o)) (fun _ _ => True) 0 (s₀ := t) trivial (fun j t one _ hj hone => ?_)) (.inl ⟨_, _, rfl⟩)) Ex.nil) (sub_add rfl (sub_add rfl (sub_add rfl (sub_add rfl sub_nil))))
    obtain ⟨n0, n6⟩ := hord one (List.mem_of_mem_take hone)
    obtain ⟨p1, p2⟩ := hok k o one hget hone
    have l1 := hcollen one
    have l2 := hcollen o
    generalize hca : colAt cols one = ca at p1 p2 l1
    generalize hcb : colAt cols o = cb at p1 p2 l2
    have ea : ∀ {A : Around} {env : Env} {ρ : Nm}, True := trivial
    have ga := hcolget one n0 n6
    have gb := hcolget o o0 o6
    rw [hca] at ga
    rw [hcb] at gb
    refine ⟨trivial, _, Asg.name ⟨by decide, .inl rfl⟩ nomu, ?_⟩
    refine Ex.cons (Ex1.assign (Ev.m (Ev.call (EvV.glob G (by with_unfolding_all rfl)) (kept_K G (by with_unfolding_all rfl)) (EvL.cons (Ev.sub (Ev.name rfl) (Ev.name rfl) (op_item_lst n0 (by (first | lia | omega)) ga)) (EvL.cons (Ev.sub (Ev.name rfl) (Ev.sub (Ev.name rfl) (Ev.name rfl) (op_item_lst hk0 hk63 hitem)) (op_item_lst o0 (by (first | lia | omega)) gb)) EvL.nil)) hR (fn_law_over G (by (first | lia | omega)) (by (first | lia | omega))))) ⟨by decide, .inl rfl⟩ nomu) ?_
    refine Ex.cons (Ex1.assign (Ev.m (Ev.call (EvV.glob G (by with_unfolding_all rfl)) (kept_K G (by with_unfolding_all rfl)) (EvL.cons (Ev.sub (Ev.name rfl) (Ev.sub (Ev.name rfl) (Ev.name rfl) (op_item_lst hk0 hk63 hitem)) (op_item_lst o0 (by (first | lia | omega)) gb)) (EvL.cons (Ev.sub (Ev.name rfl) (Ev.name rfl) (op_item_lst n0 (by (first | lia | omega)) ga)) EvL.nil)) hR (fn_law_over G (by (first | lia | omega)) (by (first | lia | omega))))) ⟨by decide, .inl rfl⟩ nomu) ?_
    refine Ex.cons (Ex1.ifF' (Tst.m (Tst.and2 (Tst.cmp (Ev.name rfl) Ev.int op_gt) (Tst.cmp (Ev.name rfl) (Ev.bin Ev.int (Ev.name rfl) (op_mul (IntMulOk.of_left (by decide)))) op_ge))) ?_ Ex.nil) ?_
    · cases h : (decide (0 < overF ca cb) && decide (3 * overF cb ca ≤ overF ca cb)) with
      | false => rfl
      | true => exact absurd (by simpa using h) p1
    refine Ex.cons (Ex1.ifF' (Tst.m (Tst.and2 (Tst.cmp (Ev.call (EvV.blt G (by with_unfolding_all rfl) rfl) kept_blt (EvL.cons (Ev.call (EvV.blt G (by with_unfolding_all rfl) rfl) kept_blt (EvL.cons (Ev.sub (Ev.name rfl) (Ev.name rfl) (op_item_lst n0 (by (first | lia | omega)) ga)) EvL.nil) hR (fn_len_map (g := D.int) (items := ca) (by (first | lia | omega))))
      (EvL.cons (Ev.call (EvV.blt G (by with_unfolding_all rfl) rfl) kept_blt (EvL.cons (Ev.sub (Ev.name rfl) (Ev.sub (Ev.name rfl) (Ev.name rfl) (op_item_lst hk0 hk63 hitem)) (op_item_lst o0 (by (first | lia | omega)) gb)) EvL.nil) hR (fn_len_map (g := D.int) (items := cb) (by (first | lia | omega)))) EvL.nil)) hR fn_max2) Ev.int op_lt) (Tst.cmp (Ev.name rfl) (Ev.name rfl) op_gt))) ?_ Ex.nil) ?_
    · cases h : (decide ((if ((cb.length : Nat) : Int) > ((ca.length : Nat) : Int) then ((cb.length : Nat) : Int) else ((ca.length : Nat) : Int)) < 3) && decide (overF cb ca < overF ca cb)) with
      | false => rfl
      | true =>
        refine absurd ?_ p2
        simp only [Bool.and_eq_true, decide_eq_true_eq] at h
        refine ⟨?_, h.2⟩
        have := h.1
        split at this <;> (first | lia | omega)
    exact Ex.cons (Ex1.aug rfl (Ev.m (Ev.name rfl)) op_iadd ⟨by decide, .inl rfl⟩ nomu) (Ex.weak Ex.nil (sub_add rfl (sub_add rfl (sub_add rfl (sub_add rfl (sub_add rfl sub_nil))))))
  · have hsl : (sortI order).length ≤ 10 := by rw [sortI_length]; exact hol
    have hmem : ∀ k ∈ sortI order, k ∈ order := fun k hk => (sortI_perm order).mem_iff.mp hk
    refine Ex.ret (Ex1.return (Ev.m (Ev.cmp (Ev.name rfl) (Ev.call (EvV.glob G (by with_unfolding_all rfl)) (kept_K G (by with_unfolding_all rfl)) (EvL.cons (d := .lst ((linesF cols order).map fun p => tupS (lineS p))) ?_ EvL.nil) hR (fn_law_crossed G ?_)) op_eq)))
    · have e1 : (linesF cols order).map (fun p => tupS (lineS p)) = (sortI order).flatMap fun k => (colAt cols k).map fun p => D.tup [.int p, .int ((order.idxOf k : Nat) : Int)] := by
        unfold linesF; rw [List.map_flatMap]; simp [List.map_map, Function.comp_def, tupS, lineS, Sc.toD]
      rw [e1]
      refine Ev.comp (ρ₀ := [("columns", .lst (cols.map fun c => .lst (intsD c))), ("order", .lst (intsD order))]) (Ev.call (EvV.blt G (by with_unfolding_all rfl) rfl) kept_blt (EvL.cons (Ev.name rfl) EvL.nil) hR (fn_sorted_ints (by (first | lia | omega)))) (Itr.lst hR.handled) (ScOk.of rfl (by decide) rfl) (rho_add rfl rfl rfl (by decide) (rho_add rfl rfl rfl (by decide) rho_nil))
        fun ce hce => Gath.two ⟨_, _, rfl⟩ ⟨_, _, rfl⟩ ?_ (fun _ => rfl) (Comp2.map (g := D.int) fun k hk => ?_)
      · refine Nat.le_trans (flatMap_le (m := 10) fun k _ => ?_) (by (first | lia | omega))
        rw [List.length_map]; exact hcollen k
      · obtain ⟨k0, k6⟩ := hord k (hmem k hk)
        refine ⟨_, _, _, asg_anon (hce.sto (by decide) rfl) (by decide), rfl, Ev.sub (Ev.name rfl) (Ev.name rfl) (op_item_lst k0 (by (first | lia | omega)) (hcolget k k0 k6)), Itr.lst hR.handled, Comp1.map (g := D.int) fun p hp => ?_⟩
        exact ⟨_, asg_anon (hce.sto (by decide) rfl) (by decide), rfl, Ev.tuple (EvL.cons (Ev.name rfl) (EvL.cons (Ev.meth F.plainAttrs_list F.slot_list_index F.type_list_index ht_lst (Ev.name rfl) (EvL.cons (Ev.name rfl) EvL.nil) hR (fn_index_int (hmem k hk) (by (first | lia | omega)))) EvL.nil)) (Nat.le_of_ble_eq_true rfl)⟩
    · unfold linesF
      refine Nat.le_trans (flatMap_le (m := 10) fun k _ => ?_) (by (first | lia | omega))
      rw [List.length_map]; exact hcollen k
end
end Mine
set_option maxHeartbeats 400000
namespace Mine
section
variable {prog : Program} {w : World} {hB : Heap} {A : Around} {env ce : Env} {ρ ρ₀ : Nm} {μ : List (Str × Mu)} {scope : Scope}
theorem Ex1.tryRet {body orelse : List Stmt} {h₀ : ExceptHandler} {hs : List ExceptHandler} {pos : Pos} {d : D} (h : Ex prog w hB A env ρ μ body (.ret d)) : Ex1 prog w hB A env ρ μ (.Try body (h₀ :: hs) orelse [] pos) (.ret d) := fun F V s E st =>
  wpAny_Try_except (wpAny_mono (h F V s _ st) (fun f s' ⟨V', y, v, hf, r⟩ => by subst hf; exact ⟨V', y, v, rfl, r⟩) fun _ _ e => e)
end
section
variable {prog : Program} {w : World} {hB : Heap} {A : Around} {env ce : Env} {ρ ρ₀ : Nm} {μ : List (Str × Mu)} {scope : Scope}
theorem fn_law_low1 (G : Gd w.params hB) {n : Nat} {c : List Int} {m : Int} (hz : c.length < 64) (hne : 0 < c.length) (hm : (sortI c)[(c.length - 1) / 2]? = some m) : Fn prog w hB (n + 2) (.ref 119) [.lst (intsD c)] (.int m) := by
  refine Fn.of_def (f := 119) (ps := ["column"]) G rfl rfl (by with_unfolding_all rfl) rfl rfl rfl rfl rfl (fun vs h => by obtain ⟨a, rfl⟩ := len1 h; rfl) (by decide) (fun x hx => ?_) (fun A env hR hsc hcl hcd hfr => ?_)
  · rw [List.mem_singleton.mp hx]; exact ⟨by decide, .inl rfl⟩
  obtain ⟨scope, L, gl, cells, qual, func, code, frame, blt⟩ := env
  dsimp only at hsc hcl
  subst hsc hcl
  exact Ex.ret (Ex1.tryRet (Ex.ret (Ex1.return (Ev.m (Ev.call (EvV.glob G (by with_unfolding_all rfl)) (kept_K G (by with_unfolding_all rfl)) (EvL.cons (Ev.name rfl) EvL.nil) hR (fn_median_low G hz hne hm))))))
theorem fn_law_high1 (G : Gd w.params hB) {n : Nat} {c : List Int} {m : Int} (hz : c.length < 64) (hne : 0 < c.length) (hm : (sortI c)[c.length / 2]? = some m) : Fn prog w hB (n + 2) (.ref 126) [.lst (intsD c)] (.int m) := by
  refine Fn.of_def (f := 126) (ps := ["column"]) G rfl rfl (by with_unfolding_all rfl) rfl rfl rfl rfl rfl (fun vs h => by obtain ⟨a, rfl⟩ := len1 h; rfl) (by decide) (fun x hx => ?_) (fun A env hR hsc hcl hcd hfr => ?_)
  · rw [List.mem_singleton.mp hx]; exact ⟨by decide, .inl rfl⟩
  obtain ⟨scope, L, gl, cells, qual, func, code, frame, blt⟩ := env
  dsimp only at hsc hcl
  subst hsc hcl
  exact Ex.ret (Ex1.tryRet (Ex.ret (Ex1.return (Ev.m (Ev.call (EvV.glob G (by with_unfolding_all rfl)) (kept_K G (by with_unfolding_all rfl)) (EvL.cons (Ev.name rfl) EvL.nil) hR (fn_median_high G hz hne hm))))))
end
end Mine
set_option maxHeartbeats 400000
namespace Mine
section
variable {prog : Program} {w : World} {hB : Heap}
theorem RepAll.of_strs {P : Params} {V : Vw} : ∀ {vs : List Value} {xs : List Str}, StrsAre vs xs → RepAll P V vs (strsD xs)
  | _, _, .nil => .nil
  | _, _, .cons n t r => .cons (.str n t) (RepAll.of_strs r)

/-- sorted(d), a dict's keys -/
theorem fn_sorted_dct {n : Nat} {kvs : List (Str × Int)} {ss : List Str} (hz : kvs.length < 64) (hu : ∀ ss', ss'.Perm (kvs.map (·.1)) → sortedS ss' = true → ss' = ss) : Fn prog w hB n (.builtin "sorted") [.dct kvs] (.lst (strsD ss)) := fun A V s vs E hR hlow hb hV r => by
  refine RepAll.consE (fun r₁ r₂ => ?_) r
  (first | refine RepAll.nilE ?_ r₂ | refine Rep.intE (fun _ => ?_) r₂ | refine Rep.strE (fun _ => ?_) r₂ | refine Rep.boolE ?_ r₂ | cases r₂)
  refine Rep.dctE (fun {a es m} z e de hn => ?_) r₁
  obtain ⟨kv, hd, hv⟩ := de.dictAt (prog := prog) (hV _ _ e) hn
  have hkl : kv.length = kvs.length := hv.length
  refine call_function_entry kind_sorted plain_sorted entry_sorted (args_sorted1 _) ?_
  unfold Builtin.«sorted»
  refine wpAny_bind (m := checkCount "sorted" 1 1 _) (wpAny_pure ?_)
  refine wpAny_bind (kdu_collect (A := A.in1) (kdl_dict (knd := PySem.strKind prog w) (kvs := kv) (ep := m) z) hR.handled hd (by rw [hkl, sizeLine_eq]; (first | lia | omega)) fun h' tk acc hk hacc => ?_)
  have hal : acc.toList.length = kvs.length := by rw [Array.length_toList, hacc.1, hkl]
  have hS : StrsAre acc.toList (kvs.map (·.1)) := by
    have key : ∀ (l : List Value) (ks : List Str), l.length = ks.length → (∀ (j : Nat) (v : Value), l[j]? = some v → ∃ k t, ks[j]? = some k ∧ v = Value.str k t) → StrsAre l ks := by
      intro l
      induction l with
      | nil => intro ks h _; cases ks with
        | nil => exact .nil
        | cons _ _ => simp at h
      | cons v l ih =>
        intro ks h hp
        cases ks with
        | nil => simp at h
        | cons k ks =>
          obtain ⟨k', t, h1, rfl⟩ := hp 0 v rfl
          simp at h1; subst h1
          exact .cons _ t (ih ks (by simpa using h) fun j u hj => by simpa using hp (j + 1) u (by simpa using hj))
    refine key _ _ (by rw [hal, List.length_map]) fun j v hj => ?_
    obtain ⟨k, x, hx, hkey⟩ := hacc.2 j v (by rw [← Array.getElem?_toList]; exact hj)
    obtain ⟨t, rfl⟩ := Value.isStrOf_shape hkey
    refine ⟨k, t, ?_, rfl⟩
    rw [← hv.keys, List.getElem?_map, hx]; rfl
  refine wpAny_bind (wpAny_newList ?_ (by rw [hal, sizeLine_eq]; (first | lia | omega)))
  have hoL : (h'.push (seqObj "list" acc.toList.toArray 0)).get? h'.objs.size = some (seqObj "list" acc.toList.toArray 0) := Heap.get?_push_size _ rfl
  refine wpAny_bind (wpAny_holding (wpAny_call_entry slot_list_sort ⟨_, hoL, rfl⟩ entry_list_sort (list_sort_treeK (s := { s with heap := h'.push (seqObj "list" acc.toList.toArray 0), toks := tk }) strKind_oneLt hoL hS.keysOf (fun v₁ v₂ rest e => keyKind_strs (by rw [← e]; exact hS)) (by (first | lia | omega)) fun st' a1 a2 => ⟨_, rfl, ?_⟩) (args_list_sort _)))
  obtain ⟨ss', h1, h2, h3⟩ := sorted_out_str hS a1 a2
  obtain ⟨e', he⟩ := sortedHeap_at (out := (arrOf st').map (·.2)) hoL
  have hss := hu ss' h2 h3
  subst hss
  refine wpAny_pure ⟨_, rfl, ?_⟩
  have hkeep : ∀ b o, s.heap.get? b = some o → (sortedHeap (h'.push (seqObj "list" acc.toList.toArray 0)) h'.objs.size acc.toList ((arrOf st').map (·.2))).get? b = some o := fun b o eb => by
    have hb' := hk b o eb
    have hlt := Heap.lt_size hb'
    rw [sortedHeap_old (Nat.ne_of_lt hlt) (by rw [Heap.size_push]; exact Nat.lt_succ_of_lt hlt)]
    exact Heap.get?_push_of_some _ hb'
  have hnew : s.heap.get? h'.objs.size = none := get_none_back (fun o q => ⟨o, hk _ o q⟩) (get_size_none _ (Nat.le_refl _))
  have he' : (sortedHeap (h'.push (seqObj "list" acc.toList.toArray 0)) h'.objs.size acc.toList ((arrOf st').map (·.2))).get? h'.objs.size = some (lstObj ((arrOf st').map (·.2)).toList e') := by rw [he]
  exact ⟨V.put h'.objs.size (lstObj ((arrOf st').map (·.2)).toList e'), ExtF.of_keep1 (t := tk) hV hkeep hnew he', .lst (Vw.put_self ..) (RepAll.of_strs h1)⟩
end
end Mine
set_option maxHeartbeats 400000
namespace Mine
/-- what a tree of asks answers -/
noncomputable def runK {α : Type} (lt : Nat → Nat → Bool) : KasT α → α
  | .ret a => a
  | .ask i j k => runK lt (k (lt i j))
/-- all that it asks is in bounds -/
noncomputable def asksK {α : Type} (lt : Nat → Nat → Bool) (n : Nat) : KasT α → Bool
  | .ret _ => true
  | .ask i j k => decide (i < n) && decide (j < n) && asksK lt n (k (lt i j))
theorem kasWp_run {α : Type} {cmp : Nat → Nat → (Bool → Shared → Prop) → Shared → Prop} {lt : Nat → Nat → Bool} {n : Nat} {Q : α → Shared → Prop} {s : Shared} (hc : ∀ i j C, i < n → j < n → C (lt i j) s → cmp i j C s) :
    ∀ (t : KasT α), asksK lt n t = true → Q (runK lt t) s → t.kasWp cmp Q s
  | .ret a, _, q => q
  | .ask i j k, h, q => by
    simp only [asksK, Bool.and_eq_true, decide_eq_true_eq] at h
    exact hc i j _ h.1.1 h.1.2 (kasWp_run hc (k (lt i j)) h.2 q)

/-- all lists of so many places below n -/
noncomputable def listsK (n : Nat) : Nat → List (List Nat)
  | 0 => [[]]
  | k + 1 => (listsK n k).flatMap fun l => ((List.range n).filter fun a => !l.contains a).map fun a => a :: l
theorem mem_listsK {n : Nat} : ∀ {l : List Nat}, l.Nodup → (∀ a ∈ l, a < n) → l ∈ listsK n l.length
  | [], _, _ => by simp [listsK]
  | a :: l, hn, h => by
    rw [List.nodup_cons] at hn
    have ih := mem_listsK hn.2 fun b hb => h b (.tail _ hb)
    rw [List.length_cons, listsK, List.mem_flatMap]
    refine ⟨l, ih, List.mem_map.mpr ⟨a, List.mem_filter.mpr ⟨List.mem_range.mpr (h a (.head _)), ?_⟩, rfl⟩⟩
    simpa using hn.1
noncomputable def ltR (r : List Nat) (i j : Nat) : Bool := decide (r.getD i 0 < r.getD j 0)
noncomputable def goodK (n : Nat) (r : List Nat) : Bool := asksK (ltR r) n (kas_sort n) && ((runK (ltR r) (kas_sort n)).toList.map fun i => r.getD i 0) == List.range n && (runK (ltR r) (kas_sort n)).toList.all fun i => decide (i < n)
theorem goodK4 : (listsK 4 4).all (goodK 4) = true := by decide +kernel
theorem goodK5 : (listsK 5 5).all (goodK 5) = true := by decide +kernel
theorem goodK6 : (listsK 6 6).all (goodK 6) = true := by decide +kernel
end Mine
set_option maxHeartbeats 400000
namespace Mine
/-- two rows, by their items in turn -/
noncomputable def lexLt : List Sc → List Sc → Bool
  | a :: l, b :: r => if a = b then lexLt l r else a.lt b
  | _, _ => false
noncomputable def alikeL : List Sc → List Sc → Bool
  | a :: l, b :: r => a.alike b && alikeL l r
  | [], [] => true
  | _, _ => false

section
variable {prog : Program} {w : World} {A : Around} {s : Shared} {P : Params} {V : Vw}
theorem eq_sc {a b : Sc} {v u : Value} (h : a.alike b = true) (ra : Rep P V v a.toD) (rb : Rep P V u b.toD) {E : Value → Shared → Prop} {Q : Bool → Shared → Prop} (hq : Q (decide (a = b)) s) : wpAny (model prog w) A (eqBool v u) Q E s := by
  cases a <;> cases b <;> first | (cases h; done) | skip
  · rename_i x y
    (first | refine RepAll.nilE ?_ ra | refine Rep.intE (fun _ => ?_) ra | refine Rep.strE (fun _ => ?_) ra | refine Rep.boolE ?_ ra | cases ra); (first | refine RepAll.nilE ?_ rb | refine Rep.intE (fun _ => ?_) rb | refine Rep.strE (fun _ => ?_) rb | refine Rep.boolE ?_ rb | cases rb)
    refine SeqAt.EqAt.int_int _ _ _ _ prog w E Q ?_
    have : (x == y) = decide (Sc.i x = Sc.i y) := by by_cases e : x = y <;> simp [e]
    rw [this]; exact hq
  · rename_i x y
    (first | refine RepAll.nilE ?_ ra | refine Rep.intE (fun _ => ?_) ra | refine Rep.strE (fun _ => ?_) ra | refine Rep.boolE ?_ ra | cases ra); (first | refine RepAll.nilE ?_ rb | refine Rep.intE (fun _ => ?_) rb | refine Rep.strE (fun _ => ?_) rb | refine Rep.boolE ?_ rb | cases rb)
    refine SeqAt.EqAt.str_str _ _ _ _ prog w E Q ?_
    have : (x == y) = decide (Sc.s x = Sc.s y) := by by_cases e : x = y <;> simp [e]
    rw [this]; exact hq
theorem lt_sc {a b : Sc} {v u : Value} {f : Bool} (h : a.alike b = true) (ra : Rep P V v a.toD) (rb : Rep P V u b.toD) {E : Value → Shared → Prop} {Q : Bool → Shared → Prop} (hq : Q (a.lt b) s) : wpAny (model prog w) A (oneLt' f v u) Q E s := by
  cases a <;> cases b <;> first | (cases h; done) | skip
  · (first | refine RepAll.nilE ?_ ra | refine Rep.intE (fun _ => ?_) ra | refine Rep.strE (fun _ => ?_) ra | refine Rep.boolE ?_ ra | cases ra); (first | refine RepAll.nilE ?_ rb | refine Rep.intE (fun _ => ?_) rb | refine Rep.strE (fun _ => ?_) rb | refine Rep.boolE ?_ rb | cases rb)
    cases f with
    | true => exact oneLt_int hq
    | false => exact kat_one _ _ (lt_int hq)
  · (first | refine RepAll.nilE ?_ ra | refine Rep.intE (fun _ => ?_) ra | refine Rep.strE (fun _ => ?_) ra | refine Rep.boolE ?_ ra | cases ra); (first | refine RepAll.nilE ?_ rb | refine Rep.intE (fun _ => ?_) rb | refine Rep.strE (fun _ => ?_) rb | refine Rep.boolE ?_ rb | cases rb)
    cases f with
    | true => exact oneLt_str hq
    | false => exact kat_one _ _ (lt_str hq)
theorem katLex_sc {Q : Bool → Shared → Prop} : ∀ {l r : List Sc} {xs ys : List Value} (i : Nat), alikeL l r = true → RepAll P V xs (l.map Sc.toD) → RepAll P V ys (r.map Sc.toD) → Q (lexLt l r) s → KatLex prog w A true false Q (xs.zip ys) i s
  | [], [], _, _, i, _, .nil, .nil, hq => kat_nil hq
  | a :: l, b :: r, _, _, i, h, .cons ra rl, .cons rb rr, hq => by
    simp only [alikeL, Bool.and_eq_true] at h
    refine kat_cons (eq_sc h.1 ra rb ?_)
    by_cases e : a = b
    · rw [decide_eq_true e]
      exact kat_yes (katLex_sc (i + 1) h.2 rl rr (by simpa [lexLt, e] using hq))
    · rw [decide_eq_false e]
      exact kat_no (lt_sc h.1 ra rb (by simpa [lexLt, e] using hq))
  | [], _ :: _, _, _, _, h, _, _, _ => by simp [alikeL] at h
  | _ :: _, [], _, _, _, h, _, _, _ => by simp [alikeL] at h
end
end Mine
set_option maxHeartbeats 400000
namespace Mine
theorem Ext.mk1 {en : Env} {V V' : Vw} {s s' : Shared} (same : ∃ h' tk, s' = { s with heap := h', toks := tk }) (keep : ∀ a o, a ≠ en.locals → s.heap.get? a = some o → s'.heap.get? a = some o) (loc : ∀ o, s.heap.get? en.locals = some o → ∃ o', s'.heap.get? en.locals = some o')
    (ns : ∀ m, s.heap.Ns en.locals m → s'.heap.Ns en.locals m) (le : V.le V') (new : ∀ a o, V' a = some o → V a = some o ∨ s.heap.get? a = none) (held : ∀ a o, V' a = some o → s'.heap.get? a = some o) : Ext en V s V' s' :=
  ⟨same, fun a o n _ e => keep a o n e, loc, ns, fun f o _ e => by
    by_cases q : f = en.locals
    · subst q; exact loc o e
    · exact ⟨o, keep f o q e⟩, fun f m _ n => by
    by_cases q : f = en.locals
    · subst q; exact ns m n
    · exact n.at' fun o e => keep f o q e, le, new, held⟩

/-- all other objects -/
noncomputable def allNews (h hB : Heap) (L : Addr) : List (Addr × Obj) := (List.range h.objs.size).filterMap fun a => if a = L then none else match hB.get? a with
  | some _ => none
  | none => (h.get? a).map fun o => (a, o)
theorem allNews_of {h hB : Heap} {L a : Addr} {o : Obj} (hm : (a, o) ∈ allNews h hB L) : h.get? a = some o ∧ a ≠ L ∧ hB.get? a = none := by
  unfold allNews at hm
  obtain ⟨b, hb, hf⟩ := List.mem_filterMap.mp hm
  by_cases e : b = L
  · rw [if_pos e] at hf; cases hf
  · rw [if_neg e] at hf
    cases hq : hB.get? b with
    | some _ => rw [hq] at hf; cases hf
    | none =>
      rw [hq] at hf
      cases hg : h.get? b with
      | none => rw [hg] at hf; cases hf
      | some o' => rw [hg] at hf; cases hf; exact ⟨hg, e, hq⟩
theorem allNews_mk {h hB : Heap} {L a : Addr} {o : Obj} (h1 : h.get? a = some o) (h2 : a ≠ L) (h3 : hB.get? a = none) : (a, o) ∈ allNews h hB L := by
  unfold allNews
  refine List.mem_filterMap.mpr ⟨a, List.mem_range.mpr (Heap.lt_size h1), ?_⟩
  rw [if_neg h2, h3, h1]; rfl
theorem allNews_news {h hB : Heap} {L : Addr} : News hB L h (allNews h hB L) := fun p hp => allNews_of hp
theorem allNews_keep {h hB h' : Heap} {L : Addr} (hst : ∀ b o, hB.get? b = some o → h.get? b = some o) (hF : ∀ b o, hB.get? b = some o → h'.get? b = some o) (hN : ∀ p ∈ allNews h hB L, h'.get? p.1 = some p.2) : ∀ b o, b ≠ L → h.get? b = some o → h'.get? b = some o := fun b o hne e => by
  cases hq : hB.get? b with
  | some o' => have := hst b o' hq; rw [e] at this; cases this; exact hF b _ hq
  | none => exact hN (b, o) (allNews_mk e hne hq)

theorem getD_of {vs : List Value} {i : Nat} (h : i < vs.length) : vs.getD i Value.none = vs[i] := by simp [List.getD, h]

theorem alikeL_len : ∀ {l r : List Sc}, alikeL l r = true → l.length = r.length
  | [], [], _ => rfl
  | a :: l, b :: r, h => by simp only [alikeL, Bool.and_eq_true] at h; simp [alikeL_len h.2]
  | [], _ :: _, h => by simp [alikeL] at h
  | _ :: _, [], h => by simp [alikeL] at h

theorem kat_tups {P : Params} {V : Vw} {h : Heap} {kd : String} (hV : ∀ b o, V b = some o → h.get? b = some o) : ∀ {rows : List (List Sc)} {us : List Value}, RepAll P V us (rows.map tupS) →
    (∀ a ∈ rows, ∃ c, a[0]? = some c ∧ ((kd = "int" ∧ c.alike (.i 0) = true) ∨ (kd = "str" ∧ c.alike (.s Str.empty) = true))) →
    ∃ fs, KatTups h us fs ∧ fs.length = rows.length ∧ ∀ f ∈ fs, (kd = "int" ∧ ∃ n t, f = .int n t) ∨ (kd = "str" ∧ ∃ x t, f = .str x t)
  | [], _, .nil, _ => ⟨[], .nil, rfl, fun _ h => nomatch h⟩
  | row :: rows, _, .cons e rr, hf => by
    obtain ⟨fs, h1, h2, h3⟩ := kat_tups hV rr fun a ha => hf a (.tail _ ha)
    obtain ⟨c, hc, hk⟩ := hf row (.head _)
    cases e with
    | @tup a xs n _ ea ra =>
    obtain ⟨v, hv, rv⟩ := ra.get (i := 0) (d := c.toD) (by rw [List.getElem?_map, hc]; rfl)
    refine ⟨v :: fs, .cons (hV _ _ ea) rfl rfl (by simpa using hv) h1, by simp [h2], fun f hf' => ?_⟩
    rcases List.mem_cons.mp hf' with rfl | hf'
    · cases c with
      | i n => refine Rep.intE (fun t => ?_) rv
               exact hk.elim (fun q => .inl ⟨q.1, _, _, rfl⟩) fun q => by simp [Sc.alike] at q
      | s x => refine Rep.strE (fun t => ?_) rv
               exact hk.elim (fun q => by simp [Sc.alike] at q) fun q => .inr ⟨q.1, _, _, rfl⟩
    · exact h3 f hf'

section
variable {prog : Program} {w : World} {hB : Heap} {A : Around} {env : Env} {ρ : Nm}

/-- «sorted(rows)», tuples of numbers and texts, no two alike -/
theorem Ev.sortedTup {np pos : Pos} {e : Expr} {rows : List (List Sc)} {r : List Nat} {kd : String} (hf : EvV prog w hB A env (.Name "sorted" np) (.builtin "sorted")) (he : Ev prog w hB A env ρ e (.lst (rows.map tupS)))
    (h2 : 2 ≤ rows.length) (h64 : rows.length < 64) (hal : ∀ a ∈ rows, ∀ b ∈ rows, alikeL a b = true) (hfst : ∀ a ∈ rows, ∃ c, a[0]? = some c ∧ ((kd = "int" ∧ c.alike (.i 0) = true) ∨ (kd = "str" ∧ c.alike (.s Str.empty) = true)))
    (hlt : ∀ i j, i < rows.length → j < rows.length → lexLt (rows.getD i []) (rows.getD j []) = ltR r i j) (hask : asksK (ltR r) rows.length (kas_sort rows.length) = true) (hin : ∀ i ∈ (runK (ltR r) (kas_sort rows.length)).toList, i < rows.length)
    (hsz : (runK (ltR r) (kas_sort rows.length)).toList.length ≤ 1000)
    (hse : starEach [e] env = [(false, eval e env)] := by rfl) : Ev prog w hB A env ρ (.Call (.Name "sorted" np) [e] [] pos) (.lst (((runK (ltR r) (kas_sort rows.length)).toList.map fun i => rows.getD i []).map tupS)) := fun V s E st => by
  refine wpAny_Call_NameR (hf V s ρ E _ st ?_)
  refine callWith_ev (first := []) st kept_blt (EvL.cons he .nil hse) (fun vs V₁ s₁ x₁ r₁ => ?_) hse (by rfl)
  refine RepAll.consE (fun r₁ r₂ => ?_) r₁
  (first | refine RepAll.nilE ?_ r₂ | refine Rep.intE (fun _ => ?_) r₂ | refine Rep.strE (fun _ => ?_) r₂ | refine Rep.boolE ?_ r₂ | cases r₂)
  refine Rep.lstE (fun {a us k} ev rr => ?_) r₁
  have st₁ := st.ext x₁
  obtain ⟨m, hm⟩ := st₁.ns
  have hul : us.length = rows.length := by rw [rr.length, List.length_map]
  have hF : Fr hB env.locals s₁.heap m := ⟨hm, st₁.stays, st₁.above⟩
  refine kat_sorted hF allNews_news (isList_of st₁.held ev) (by (first | lia | omega)) (by (first | lia | omega)) fun D e1 h' F' N' hD => ?_
  have keep1 : ∀ b o, b ≠ env.locals → s₁.heap.get? b = some o → h'.get? b = some o := allNews_keep st₁.stays F'.keep fun p hp => (N' p (.tail _ hp)).1
  have hVk : ∀ b o, V₁ b = some o → h'.get? b = some o := fun b o eb => keep1 b o (fun q => by rw [q, st₁.locV] at eb; cases eb) (st₁.held b o eb)
  -- the tuples, as they lie there
  have hat : ∀ i, i < rows.length → ∃ b xs n, us.getD i Value.none = .ref b ∧ h'.get? b = some (tupObj xs n) ∧ RepAll w.params V₁ xs ((rows.getD i []).map Sc.toD) := fun i hi => by
    obtain ⟨v, hv, rv⟩ := rr.get (i := i) (d := tupS (rows.getD i [])) (by rw [List.getElem?_map]; simp [List.getD, hi])
    have hu : us.getD i Value.none = v := by simp [List.getD, hv]
    rw [hu]
    refine Rep.tupE (fun eb rb => ?_) rv
    exact ⟨_, _, _, rfl, hVk _ _ eb, rb⟩
  obtain ⟨fs, hKT, hfl, hfk⟩ := kat_tups (V := V₁) hVk rr hfst
  refine kat_kind (T := .type kd) hKT (by rw [hfl]; (first | lia | omega)) (fun f hf => (hfk f hf).elim (fun ⟨q, n, t, e⟩ => by rw [q, e]; exact Looks.of_pure rfl) fun ⟨q, x, t, e⟩ => by rw [q, e]; exact Looks.of_pure rfl) (by simp) ?_
  have hkd : (Value.type kd != Value.type "tuple") = true := by
    obtain ⟨a₀, ha₀⟩ : ∃ a₀, a₀ ∈ rows := by
      cases rows with
      | nil => simp at h2
      | cons a₀ _ => exact ⟨a₀, .head _⟩
    obtain ⟨c, _, hc⟩ := hfst a₀ ha₀
    rcases hc with ⟨rfl, _⟩ | ⟨rfl, _⟩ <;> decide
  rw [hkd]
  have hulK : kas_sort us.length = kas_sort rows.length := by rw [hul]
  rw [hulK]
  refine kasWp_run (lt := ltR r) (n := rows.length) (fun i j C hi hj hC => ?_) _ hask ?_
  · obtain ⟨b, xs, n, hb, hob, rb⟩ := hat i hi
    obtain ⟨b', ys, n', hb', hob', rb'⟩ := hat j hj
    unfold kas_ask
    rw [hb, hb']
    have hmem : ∀ i, i < rows.length → rows.getD i [] ∈ rows := fun i hi => by simp [List.getD, hi]
    have hali := hal _ (hmem i hi) _ (hmem j hj)
    refine kat_lt hob rfl hob' rfl ?_
    have hsz' : decide (xs.toArray.size < ys.toArray.size) = false := by
      have h1 : xs.length = (rows.getD i []).length := by rw [rb.length, List.length_map]
      have h2 : ys.length = (rows.getD j []).length := by rw [rb'.length, List.length_map]
      have h3 := alikeL_len hali
      simp only [List.size_toArray, decide_eq_false_iff_not]; (first | lia | omega)
    rw [hsz']
    exact katLex_sc 0 hali rb rb' (by rw [hlt i j hi hj]; exact hC)
  · refine KasFin.intro F' N' (.head fun p hp q => absurd (hD p hp) (by rw [q]; exact Nat.lt_irrefl _)) fun h'' c F'' N'' => ?_
    have keep2 : ∀ b o, b ≠ env.locals → s₁.heap.get? b = some o → h''.get? b = some o := allNews_keep st₁.stays F''.keep fun p hp => (N'' p (.tail _ hp)).1
    have hDn : s₁.heap.get? D = none := by
      cases q : s₁.heap.get? D with
      | none => rfl
      | some o => exact absurd (hD (D, o) (allNews_mk q (N' _ (.head _)).2.1 (N' _ (.head _)).2.2)) (Nat.lt_irrefl _)
    have hDo := (N'' _ (.head _)).1
    have hVD : V₁ D = none := st₁.held.gone hDn
    have hDo' : h''.get? D = some (lstObj ((runK (ltR r) (kas_sort rows.length)).toList.map fun i => us.getD i Value.none) c) := hDo
    refine ⟨V₁.put D (lstObj ((runK (ltR r) (kas_sort rows.length)).toList.map fun i => us.getD i Value.none) c), x₁.trans (Ext.mk1 ⟨h'', s₁.toks, rfl⟩ keep2 (fun o ho => ?_) (fun m' hm' => ?_) (Vw.le_put hVD) (fun b o eb => ?_) (fun b o eb => ?_)), .lst (Vw.put_self ..) ?_⟩
    · obtain ⟨o', _, _, ho', _⟩ := F''.ns; exact ⟨o', ho'⟩
    · rw [ns_unique hm' hm]; exact F''.ns
    · by_cases q : b = D
      · exact .inr (q ▸ hDn)
      · rw [V₁.put_ne _ q] at eb; exact .inl eb
    · by_cases q : b = D
      · subst q; rw [V₁.put_self] at eb; cases eb; exact hDo'
      · rw [V₁.put_ne _ q] at eb
        exact keep2 b o (fun q => by rw [q, st₁.locV] at eb; cases eb) (st₁.held b o eb)
    · rw [List.map_map]
      have : ∀ (l : List Nat), (∀ i ∈ l, i < rows.length) → RepAll w.params V₁ (l.map fun i => us.getD i Value.none) (l.map fun i => tupS (rows.getD i [])) := by
        intro l
        induction l with
        | nil => intro _; exact .nil
        | cons i l ih =>
          intro h
          obtain ⟨v, hv, rv⟩ := rr.get (i := i) (d := tupS (rows.getD i [])) (by rw [List.getElem?_map]; simp [List.getD, h i (.head _)])
          have hu : us.getD i Value.none = v := by simp [List.getD, hv]
          exact .cons (by show Rep _ _ (us.getD i Value.none) _; rw [hu]; exact rv) (ih fun j hj => h j (.tail _ hj))
      exact (this _ hin).mono (Vw.le_put hVD)
end
end Mine
set_option maxHeartbeats 400000
namespace Mine
section
variable {prog : Program} {w : World} {hB : Heap}

/-- a lambda of one name, upon a datum -/
theorem call_lambda (G : Gd w.params hB) {name qual x : Str} {params : Arguments} {body : Expr} {scope : Scope} {pm ctv : Value} {c' f : Addr} {d d' : D} {n : Nat} {A : Around} {V : Vw} {s : Shared} {v : Value} {E : Value → Shared → Prop}
    (hR : Room (n + 1) A) (hlow : hB.objs.size ≤ s.heap.objs.size) (hb : ∀ a o, hB.get? a = some o → V a = some o) (hV : Held V s) (hf : V f = some (kla_obj name qual params body scope [] pm c' ctv)) (hcd : s.heap.CodeRec (.ref c') qual) (r : Rep w.params V v d)
    (hbind : bindArgs (kla_fn name qual params body scope [] pm (.ref c') ctv) ⟨[v], []⟩ = pure [(x, v)]) (hx : scope.names.lookup x = some .local) (hxd : (x == ("__debug__" : Str)) = false) (hcell : ∀ y ∈ scope.names, y.2 ≠ .cell)
    (h : ∀ A env, Room n A → env.scope = scope → env.cells = [] → Ev prog w hB A env [(x, d)] body d')
    (hco : scope.isCoroutine = false := by rfl) (hgen : scope.isGenerator = false := by rfl) (hk : scope.kind = .function := by rfl) :
    wpAny (model prog w) A (call (.ref f) [v]) (PostF w.params V s d') E s := by
  have hst : ∀ a o, hB.get? a = some o → s.heap.get? a = some o := fun a o e => hV a o (hb a o e)
  refine wpAny_call (kla_callFunE (by have := hR.depth; (first | lia | omega)) (hV _ _ hf) rfl hco hgen rfl hcd ?_)
  rw [hbind]
  refine wpAny_pure (wpAny_newFunctionEnv hcell (fun y hy => by rw [List.mem_singleton.mp hy]; exact hx) (fun h₁ hns hsb => ⟨(G.nolim.keeps hst).fresh _ hsb, ?_⟩) hk)
  have hk₁ : ∀ b o, s.heap.get? b = some o → h₁.get? b = some o := fun b o e => hsb.extBut b o (Nat.ne_of_lt (Heap.lt_size e)) (Heap.get?_push_of_some _ e)
  refine kla_codeExpr ?_
  let env : Env := envX qual scope s.heap.objs.size f (.ref c') []
  have hL : V env.locals = none := hV.fresh (Nat.le_refl _)
  have st : St w.params hB env [(x, d)] V { s with heap := h₁, toks := s.toks + 1 } := {
    base := hb, held := fun a o e => hk₁ a o (hV a o e), fn := hk, glob := rfl, blt := rfl, above := hlow, locV := hL, ns := ⟨_, hns⟩
    cell := fun y c hc => by cases hc
    apart := .nil
    frm := fun g hg => by
      have hg' : env.locals = g := Option.some.inj hg
      subst hg'
      exact ⟨hL, _, hns⟩
    names := fun y d₁ hy => by
      rcases lookup_cons_of hy with ⟨rfl, rfl⟩ | ⟨_, hy⟩
      · exact ⟨hxd, v, r, .inl ⟨hx, _, hns, by simp⟩⟩
      · cases hy }
  refine wpAny_mono (h _ env (hR.deeper env) rfl rfl V _ (fun _ _ => False) st) (fun u s' ⟨V', y, ru⟩ => ?_) fun _ _ e => e.elim
  refine ⟨V', ⟨?_, fun a o e => ?_, y.le, fun a o e => ?_, y.held⟩, ru⟩
  · obtain ⟨h2, t2, e2⟩ := y.same; exact ⟨h2, t2, by rw [e2]⟩
  · exact y.keep a o (Nat.ne_of_lt (Heap.lt_size e)) (fun q => Nat.ne_of_lt (Heap.lt_size e) (Option.some.inj q).symm) (hk₁ a o e)
  · rcases y.new a o e with q | q
    · exact .inl q
    · exact .inr (get_none_back (fun o q => ⟨o, hk₁ a o q⟩) q)
end
end Mine
set_option maxHeartbeats 400000
namespace Mine
/-- where the sort by keys stands -/
structure KInv (P : Params) (hB : Heap) (L : Addr) (m : Str → Option Value) (V₁ : Vw) (s₁ : Shared) (kS D : Addr) (e1 : Nat) (V : Vw) (h : Heap) (ks : List Value) (e : Nat) : Prop where
  fr : Fr hB L h m
  held : ∀ b o, V b = some o → h.get? b = some o
  le : V₁.le V
  old : ∀ b o, b ≠ L → s₁.heap.get? b = some o → h.get? b = some o
  new : ∀ b o, V b = some o → V₁ b = some o ∨ s₁.heap.get? b = none
  locV : V L = none
  kO : h.get? kS = some (seqObj "list" (List.toArray ks) e)
  kV : V kS = none
  kL : kS ≠ L
  kB : hB.get? kS = none
  kN : s₁.heap.get? kS = none
  dO : h.get? D = some (seqObj "list" #[] e1)
  dV : V D = none
  dL : D ≠ L
  dB : hB.get? D = none
  dN : s₁.heap.get? D = none
  kD : kS ≠ D

open Classical in
noncomputable def othersK (h hB : Heap) (L kS D : Addr) : List (Addr × Obj) := (allNews h hB L).filter fun p => decide (p.1 ≠ kS ∧ p.1 ≠ D)
theorem othersK_of {h hB : Heap} {L kS D a : Addr} {o : Obj} (hm : (a, o) ∈ othersK h hB L kS D) : h.get? a = some o ∧ a ≠ L ∧ hB.get? a = none ∧ a ≠ kS ∧ a ≠ D := by
  unfold othersK at hm
  obtain ⟨h1, h2⟩ := List.mem_filter.mp hm
  obtain ⟨a1, a2, a3⟩ := allNews_of h1
  have := of_decide_eq_true h2
  exact ⟨a1, a2, a3, this.1, this.2⟩
theorem othersK_mk {h hB : Heap} {L kS D a : Addr} {o : Obj} (h1 : h.get? a = some o) (h2 : a ≠ L) (h3 : hB.get? a = none) (h4 : a ≠ kS) (h5 : a ≠ D) : (a, o) ∈ othersK h hB L kS D :=
  List.mem_filter.mpr ⟨allNews_mk h1 h2 h3, decide_eq_true ⟨h4, h5⟩⟩

section
variable {P : Params} {hB : Heap} {L kS D : Addr} {m : Str → Option Value} {V₁ V : Vw} {s₁ : Shared} {e1 e : Nat} {h h' : Heap} {ks ks' : List Value}
theorem KInv.news (I : KInv P hB L m V₁ s₁ kS D e1 V h ks e) : News hB L h ((kS, seqObj "list" (List.toArray ks) e) :: (D, seqObj "list" #[] e1) :: othersK h hB L kS D) := fun p hp => by
  rcases List.mem_cons.mp hp with rfl | hp
  · exact ⟨I.kO, I.kL, I.kB⟩
  · rcases List.mem_cons.mp hp with rfl | hp
    · exact ⟨I.dO, I.dL, I.dB⟩
    · obtain ⟨a1, a2, a3, _⟩ := othersK_of hp; exact ⟨a1, a2, a3⟩
theorem KInv.upd (I : KInv P hB L m V₁ s₁ kS D e1 V h ks e) : UpdF kS (seqObj "list" (List.toArray ks) e) ((kS, seqObj "list" (List.toArray ks) e) :: (D, seqObj "list" #[] e1) :: othersK h hB L kS D) (fun o' => (kS, o') :: (D, seqObj "list" #[] e1) :: othersK h hB L kS D) :=
  .head fun p hp => by
    rcases List.mem_cons.mp hp with rfl | hp
    · exact Ne.symm I.kD
    · exact (othersK_of hp).2.2.2.1
theorem KInv.keep (I : KInv P hB L m V₁ s₁ kS D e1 V h ks e) (F : Fr hB L h' m) {o' : Obj} (N : News hB L h' ((kS, o') :: (D, seqObj "list" #[] e1) :: othersK h hB L kS D)) : ∀ b o, b ≠ L → b ≠ kS → h.get? b = some o → h'.get? b = some o := fun b o hL hk eb => by
  by_cases hd : b = D
  · subst hd; rw [I.dO] at eb; cases eb; exact (N _ (.tail _ (.head _))).1
  · cases hq : hB.get? b with
    | some o'' => have := I.fr.keep b o'' hq; rw [eb] at this; cases this; exact F.keep b _ hq
    | none => exact (N (b, o) (.tail _ (.tail _ (othersK_mk eb hL hq hk hd)))).1
theorem KInv.step (I : KInv P hB L m V₁ s₁ kS D e1 V h ks e) (F : Fr hB L h' m) {c : Nat} (N : News hB L h' ((kS, seqObj "list" (List.toArray ks') c) :: (D, seqObj "list" #[] e1) :: othersK h hB L kS D)) : KInv P hB L m V₁ s₁ kS D e1 V h' ks' c :=
  { I with
    fr := F
    held := fun b o eb => I.keep F N b o (fun q => by rw [q, I.locV] at eb; cases eb) (fun q => by rw [q, I.kV] at eb; cases eb) (I.held b o eb)
    old := fun b o hL eb => I.keep F N b o hL (fun q => by rw [q, I.kN] at eb; cases eb) (I.old b o hL eb)
    kO := (N _ (.head _)).1
    dO := (N _ (.tail _ (.head _))).1 }
/-- a call between -/
theorem KInv.call {s s' : Shared} {V' : Vw} (I : KInv P hB L m V₁ s₁ kS D e1 V s.heap ks e) (x : ExtF V s V' s') : KInv P hB L m V₁ s₁ kS D e1 V' s'.heap ks e :=
  have nn : ∀ {b o}, V b = none → s.heap.get? b = some o → V' b = none := fun {b o} hb ho => by
    cases q : V' b with
    | none => rfl
    | some o' => rcases x.new b o' q with q' | q'
                 · rw [hb] at q'; cases q'
                 · rw [ho] at q'; cases q'
  { fr := ⟨I.fr.ns.keeps x.keep, fun b o eb => x.keep b o (I.fr.keep b o eb), I.fr.above⟩
    held := x.held
    le := I.le.trans x.le
    old := fun b o hL eb => x.keep b o (I.old b o hL eb)
    new := fun b o eb => by
      rcases x.new b o eb with q | q
      · exact I.new b o q
      · by_cases hL : b = L
        · obtain ⟨oL, _, _, hoL, _⟩ := I.fr.ns; rw [hL, hoL] at q; cases q
        · refine .inr ?_
          cases q' : s₁.heap.get? b with
          | none => rfl
          | some o' => rw [I.old b o' hL q'] at q; cases q
    locV := by obtain ⟨oL, _, _, hoL, _⟩ := I.fr.ns; exact nn I.locV hoL
    kO := x.keep _ _ I.kO
    kV := nn I.kV I.kO
    kL := I.kL
    kB := I.kB
    kN := I.kN
    dO := x.keep _ _ I.dO
    dV := nn I.dV I.dO
    dL := I.dL
    dB := I.dB
    dN := I.dN
    kD := I.kD }
end
end Mine
set_option maxHeartbeats 400000
namespace Mine
/-- a lambda's code object, as it is seen -/
noncomputable def CodeSeen (V : Vw) (c : Addr) (qual : Str) : Prop := ∃ o vs t, V c = some o ∧ o.data = .fields vs ∧ vs[1]? = some (.str qual t)
theorem CodeSeen.mono {V V' : Vw} {c : Addr} {qual : Str} (h : CodeSeen V c qual) (x : V.le V') : CodeSeen V' c qual := let ⟨o, vs, t, e, r⟩ := h; ⟨o, vs, t, x _ _ e, r⟩
theorem CodeSeen.rec {V : Vw} {s : Shared} {c : Addr} {qual : Str} (h : CodeSeen V c qual) (hV : Held V s) : s.heap.CodeRec (.ref c) qual := let ⟨o, vs, t, e, e1, e2⟩ := h; ⟨c, o, vs, t, rfl, hV _ _ e, e1, e2⟩

theorem TabIs.triples : ∀ {vs : List Value} {ps : List (Nat × Nat)}, TabIs vs ps → TriplesOk vs
  | _, _, .nil => trivial
  | _, _, .cons r => by have := TabIs.triples r; exact this
theorem TabIs.among {pos : Pos} : ∀ {vs : List Value} {ps : List (Nat × Nat)}, TabIs vs ps → (ps.all fun q => !(q.1 == pos.line && q.2 == pos.col)) = true → codeAmong pos vs = none
  | _, _, .nil, _ => rfl
  | _, _, .cons (l := l) (c := c) r, h => by
    simp only [List.all_cons, Bool.and_eq_true, Bool.not_eq_true'] at h
    unfold codeAmong
    have : ((l : Int) == (pos.line : Int) && (c : Int) == (pos.col : Int)) = false := by
      rw [← h.1]
      have a : ∀ m k : Nat, ((m : Int) == (k : Int)) = (m == k) := fun m k => by
        by_cases e : m = k
        · subst e; simp
        · have e1 : ((m : Int) == (k : Int)) = false := beq_eq_false_iff_ne.mpr (by (first | lia | omega))
          have e2 : (m == k) = false := beq_eq_false_iff_ne.mpr e
          rw [e1, e2]
      rw [a, a]
    rw [if_neg (by rw [this]; decide)]
    exact TabIs.among r h.2
theorem TabIs.snoc {l c : Nat} {t u : Tok} {v : Value} : ∀ {vs : List Value} {ps : List (Nat × Nat)}, TabIs vs ps → TabIs (vs ++ [.int l t, .int c u, v]) (ps ++ [(l, c)])
  | _, _, .nil => .cons .nil
  | _, _, .cons r => .cons (TabIs.snoc r)

section
variable {hB : Heap} {env : Env} {ρ : Nm} {μ : List (Str × Mu)} {P : Params} {V V' : Vw} {s s' : Shared}

/-- one object that is not seen has changed -/
theorem St.but {T : Addr} (st : St P hB env ρ V s) (hT : V T = none ∧ (T ≠ env.locals ∧ env.frame ≠ some T) ∧ ∀ x c, env.cells.lookup x = some c → c ≠ T) (hk : ∀ b o, b ≠ T → s.heap.get? b = some o → s'.heap.get? b = some o)
    (hle : V.le V') (hnew : ∀ a o, V' a = some o → V a = some o ∨ s.heap.get? a = none) (hheld : Held V' s') : St P hB env ρ V' s' where
  base := fun a o e => hle a o (st.base a o e)
  held := hheld
  fn := st.fn
  glob := st.glob
  blt := st.blt
  above := st.above
  locV := by
    obtain ⟨m, n⟩ := st.ns
    cases e : V' env.locals with
    | none => rfl
    | some o => rcases hnew _ _ e with q | q
                · rw [st.locV] at q; cases q
                · obtain ⟨o', _, _, ho', _⟩ := n; rw [q] at ho'; cases ho'
  ns := let ⟨m, n⟩ := st.ns; ⟨m, n.extBut (b := T) hk (Ne.symm hT.2.1.1)⟩
  cell := fun z c h => by
    obtain ⟨h1, h2, h3, v, o, ho, hd⟩ := st.cell z c h
    refine ⟨?_, h2, h3, v, o, hk c o (hT.2.2 z c h) ho, hd⟩
    cases e : V' c with
    | none => rfl
    | some o' => rcases hnew _ _ e with q | q
                 · rw [h1] at q; cases q
                 · rw [q] at ho; cases ho
  apart := st.apart
  frm := fun f hf => by
    obtain ⟨h1, m, n⟩ := st.frm f hf
    refine ⟨?_, m, n.extBut (b := T) hk (fun q => hT.2.1.2 (q ▸ hf))⟩
    cases e : V' f with
    | none => rfl
    | some o => rcases hnew _ _ e with q | q
                · rw [h1] at q; cases q
                · obtain ⟨o', _, _, ho', _⟩ := n; rw [q] at ho'; cases ho'
  names := fun z d e => by
    obtain ⟨hd, v, r, l⟩ := st.names z d e
    refine ⟨hd, v, r.mono hle, ?_⟩
    rcases l with ⟨k, m, n, e⟩ | ⟨k, c, hc, hcl, ⟨o, ho, hd⟩⟩
    · exact .inl ⟨k, m, n.extBut (b := T) hk (Ne.symm hT.2.1.1), e⟩
    · exact .inr ⟨k, c, hc, hcl, o, hk c o (hT.2.2 _ _ hc) ho, hd⟩
theorem LoadsTo.but {T : Addr} {x : Str} {v : Value} (hT : (T ≠ env.locals ∧ env.frame ≠ some T) ∧ ∀ x c, env.cells.lookup x = some c → c ≠ T) (hk : ∀ b o, b ≠ T → s.heap.get? b = some o → s'.heap.get? b = some o) (l : LoadsTo env s.heap x v) : LoadsTo env s'.heap x v := by
  rcases l with ⟨k, m, n, e⟩ | ⟨k, c, hc, hcl, ⟨o, ho, hd⟩⟩
  · exact .inl ⟨k, m, n.extBut (b := T) hk (Ne.symm hT.1.1), e⟩
  · exact .inr ⟨k, c, hc, hcl, o, hk c o (hT.2 _ _ hc) ho, hd⟩
theorem MuAll.but {T : Addr} (hT : (T ≠ env.locals ∧ env.frame ≠ some T) ∧ ∀ x c, env.cells.lookup x = some c → c ≠ T) (hk : ∀ b o, b ≠ T → s.heap.get? b = some o → s'.heap.get? b = some o) (hle : V.le V') {μ : List (Str × Mu)} {F : List (List Addr)} (m : MuAll P V env s.heap μ F) : T ∉ F.flatten → MuAll P V' env s'.heap μ F := by
  induction m with
  | nil => exact fun _ => .nil
  | cons d l m _ ih => exact fun h => .cons d (fun hx => (l hx).but hT hk) (m.mono hle fun b hb o e => hk b o (fun q => h (inF (q ▸ hb))) e) (ih fun q => h (inT q))

theorem muAll_tab_shape {h : Heap} {x : Str} {T : Addr} {ps : List (Nat × Nat)} {F : List (List Addr)} (q : MuAll P V env h ((x, .tab ((T, 0) :: ps)) :: μ) F) : ∃ F' vs, F = [T] :: F' ∧ h.get? T = some { cls := .none, data := .fields (List.toArray vs) } ∧ TabIs vs ps ∧ MuAll P V env h μ F' := by
  cases q with
  | cons d l m r => cases m with
    | tab e i => exact ⟨_, _, rfl, e, i, r⟩

/-- the table of code objects grows -/
theorem StM.grow {T : Addr} {ps ps' : List (Nat × Nat)} {F : List (List Addr)} {vs' : List Value} (st : StM P hB env ρ ((anon, .tab ((T, 0) :: ps)) :: μ) ([T] :: F) V s) (hk : ∀ b o, b ≠ T → s.heap.get? b = some o → s'.heap.get? b = some o)
    (hle : V.le V') (hnew : ∀ a o, V' a = some o → V a = some o ∨ s.heap.get? a = none) (hheld : Held V' s') (ho : s'.heap.get? T = some { cls := .none, data := .fields (List.toArray vs') }) (hi : TabIs vs' ps') : StM P hB env ρ ((anon, .tab ((T, 0) :: ps')) :: μ) ([T] :: F) V' s' := by
  have hT := st.off T (by simp)
  have hnd := st.nd
  rw [List.flatten_cons, List.singleton_append, List.nodup_cons] at hnd
  refine ⟨st.st.but hT hk hle hnew hheld, ?_, st.nd, fun a ha => ?_⟩
  · cases st.mu with
    | cons d l m r => exact .cons d (fun hx => absurd rfl hx) (.tab ho hi) (r.but hT.2 hk hle hnd.1)
  · obtain ⟨h1, h2⟩ := st.off a ha
    refine ⟨?_, h2⟩
    cases e : V' a with
    | none => rfl
    | some o => rcases hnew a o e with q | q
                · rw [h1] at q; cases q
                · obtain ⟨o', ho'⟩ := st.mu.lt a ha
                  rw [q] at ho'; cases ho'
end

section
variable {prog : Program} {w : World} {hB : Heap} {A : Around} {env : Env} {ρ : Nm} {μ : List (Str × Mu)}

/-- an expression that changes a handle -/
noncomputable def EvS (prog : Program) (w : World) (hB : Heap) (A : Around) (env : Env) (ρ : Nm) (μ μ' : List (Str × Mu)) (e : Expr) (d : D) : Prop :=
  ∀ F V s E, StM w.params hB env ρ μ F V s → wpAny (model prog w) A (eval e env) (fun v s' => ∃ V', ExtS env F V s V' s' ∧ StM w.params hB env ρ μ' F V' s' ∧ Rep w.params V' v d) E s

theorem eval_lambda {p : Program} {loose : List Str} {mean : ExcName → Option Value} {mg mb : Str → Option Value} (T : Top p loose mean mg mb hB) {params : Arguments} {body : Expr} {scope : Scope} {pos : Pos} {c tb : Addr} {ps : List (Nat × Nat)} {F : List (List Addr)} {V : Vw} {s : Shared}
    {E Q : Value → Shared → Prop} (st : StM w.params hB env ρ ((anon, .tab ((tb, 0) :: ps)) :: μ) ([tb] :: F) V s) (hcode : env.code = .ref c) (C : CodeHd hB c tb) (hnf : (ps.all fun q => !(q.1 == pos.line && q.2 == pos.col)) = true)
    (hdef : defaultsOf params env = ([], [])) (hcl : closureFor scope env = pure [])
    (h : ∀ f V' s' c' ctv pm, ExtS env ([tb] :: F) V s V' s' → StM w.params hB env ρ ((anon, .tab ((tb, 0) :: (ps ++ [(pos.line, pos.col)]))) :: μ) ([tb] :: F) V' s' →
      V' f = some (kla_obj "<lambda>" (env.qual ++ "<lambda>") params body scope [] pm c' ctv) → CodeSeen V' c' (env.qual ++ "<lambda>") → Q (.ref f) s') :
    wpAny (model prog w) A (eval (.Lambda params body scope pos) env) Q E s := by
  obtain ⟨F', vs, hF, hto, hti, hr⟩ := muAll_tab_shape st.mu
  cases hF
  have hT := st.off tb (by simp)
  have hst := st.st.stays
  obtain ⟨bm, ob, b1, b2, b3, b4, b5, b6⟩ := T.bmain
  have hgs := T.g.keeps hst
  have hgP : mainGlobals ≠ tb := fun q => by
    obtain ⟨o, es, ep, e, hd, _⟩ := hgs
    rw [q, hto] at e; cases e; cases hd
  have hbP : bm ≠ tb := fun q => by
    have e := hst _ _ b3
    rw [q, hto] at e; cases e; cases b4
  have hbG : bm ≠ mainGlobals := fun q => by
    obtain ⟨o, es, ep, e, hd, _⟩ := T.g
    rw [q, e] at b3; cases b3; rw [hd] at b6; cases b6
  refine kla_eval hdef (kla_makeFunction (mg := mg) hcl st.st.glob hgs hcode (C.keeps hst) hto (by simpa using hti.triples) (by simpa using hti.among hnf) hgP ⟨bm, ob, b1, b2, hbG, hbP, hst _ _ b3, b4, b5, b6⟩ fun c' ctv h' tk hx hge hlt hrec htb => ?_)
  obtain ⟨c₂, oc, vs₂, t, e2, hoc, hd, hv⟩ := hrec
  cases e2
  have hcn : s.heap.get? c' = none := get_size_none _ hge
  have hfn : s.heap.get? h'.objs.size = none := get_size_none _ (Nat.le_trans hge (Nat.le_of_lt hlt))
  have hne : h'.objs.size ≠ c' := Nat.ne_of_gt hlt
  have hct : c' ≠ tb := fun q => by rw [q, hto] at hcn; cases hcn
  have hft : h'.objs.size ≠ tb := fun q => by rw [q, hto] at hfn; cases hfn
  let fo := kla_obj "<lambda>" (env.qual ++ "<lambda>") params body scope [] ((mg "__name__").getD .none) c' ctv
  have k1 : ∀ b o, b ≠ tb → s.heap.get? b = some o → (h'.push fo).get? b = some o := fun b o hb e => Heap.get?_push_of_some _ (hx b o hb e)
  have hVc : V c' = none := st.st.held.gone hcn
  have hVf : (V.put c' oc) h'.objs.size = none := by rw [Vw.put_ne _ _ hne]; exact st.st.held.gone hfn
  have hle : V.le ((V.put c' oc).put h'.objs.size fo) := (Vw.le_put hVc).trans (Vw.le_put hVf)
  have hnew : ∀ a o, ((V.put c' oc).put h'.objs.size fo) a = some o → V a = some o ∨ s.heap.get? a = none := fun a o e => by
    by_cases q : a = h'.objs.size
    · exact .inr (q ▸ hfn)
    · rw [Vw.put_ne _ _ q] at e
      by_cases q' : a = c'
      · exact .inr (q' ▸ hcn)
      · rw [Vw.put_ne _ _ q'] at e; exact .inl e
  have hheld : ∀ a o, ((V.put c' oc).put h'.objs.size fo) a = some o → (h'.push fo).get? a = some o := fun a o e => by
    by_cases q : a = h'.objs.size
    · subst q; rw [Vw.put_self] at e; cases e; exact Heap.get?_push_size _ rfl
    · rw [Vw.put_ne _ _ q] at e
      by_cases q' : a = c'
      · subst q'; rw [Vw.put_self] at e; cases e; exact Heap.get?_push_of_some _ hoc
      · rw [Vw.put_ne _ _ q'] at e
        exact k1 a o (fun q => by rw [q, hT.1] at e; cases e) (st.st.held a o e)
  refine h h'.objs.size _ { s with heap := h'.push fo, toks := tk } c' ctv _ ⟨⟨_, _, rfl⟩, fun a o _ ha e => k1 a o (fun q => ha (by rw [q]; simp)) e, hle, fun a o e => (hnew a o e).imp id fun q => .inr (.inr q), hheld, fun f m hf hne n => n.at' fun o e => k1 f o (fun q => hT.2.1.2 (q ▸ hf)) e⟩
    (st.grow (vs' := vs ++ [rawInt pos.line, rawInt pos.col, .ref c']) (fun b o hb e => k1 b o hb e) hle hnew hheld ?_ (TabIs.snoc hti)) (Vw.put_self ..) ⟨oc, vs₂, t, ?_, hd, hv⟩
  · have := Heap.get?_push_of_some fo htb
    simpa using this
  · rw [Vw.put_ne _ _ (Ne.symm hne), Vw.put_self]
end
end Mine
set_option maxHeartbeats 400000
namespace Mine
section
variable {prog : Program} {w : World} {hB : Heap} {A : Around} {env : Env} {ρ : Nm} {μ : List (Str × Mu)}

/-- the keys are made in turn -/
theorem katKeys_run {L kS D : Addr} {m : Str → Option Value} {V₁ : Vw} {s₁ : Shared} {e1 : Nat} {f : Value} {kf : List Sc → List Sc} {Fin : List Value → Nat → Shared → Prop} {all : List (List Sc)}
    (hcall : ∀ row ∈ all, ∀ V s v E, hB.objs.size ≤ s.heap.objs.size → (∀ a o, hB.get? a = some o → V a = some o) → Held V s → V₁.le V → Rep w.params V v (tupS row) → wpAny (model prog w) A (call f [v]) (PostF w.params V s (tupS (kf row))) E s)
    (hbase : ∀ a o, hB.get? a = some o → V₁ a = some o) :
    ∀ {rows keys : List (List Sc)} {us ks : List Value} {V : Vw} {s : Shared} {e : Nat}, (∀ row ∈ rows, row ∈ all) → KInv w.params hB L m V₁ s₁ kS D e1 V s.heap ks e → (∃ h tk, s = { s₁ with heap := h, toks := tk }) → RepAll w.params V us (rows.map tupS) → RepAll w.params V ks (keys.map tupS) →
      (∀ V' s' ks' e', KInv w.params hB L m V₁ s₁ kS D e1 V' s'.heap ks' e' → (∃ h tk, s' = { s₁ with heap := h, toks := tk }) → RepAll w.params V' ks' ((keys ++ rows.map kf).map tupS) → Fin ks' e' s') → KatKeys prog w A hB L m kS f Fin us ks e s
  | [], keys, _, ks, V, s, e, _, I, hs, .nil, rk, fin => KatKeys.nil (fin V s ks e I hs (by simpa using rk))
  | row :: rows, keys, _, ks, V, s, e, hmem, I, hs, .cons ru rus, rk, fin => by
    refine KatKeys.cons (wpAny_mono (hcall row (hmem row (.head _)) V s _ _ (Nat.le_trans I.fr.above (Nat.le_of_lt I.fr.ns.lt)) (fun a o q => I.le a o (hbase a o q)) I.held I.le ru) (fun k s' ⟨V', x, rv⟩ => ?_) fun _ _ q => q)
    have I' := I.call x
    refine KatBack.intro I'.fr I'.news I'.upd fun h' c F' N' => ?_
    have I2 := I'.step (ks' := ks ++ [k]) F' N'
    refine katKeys_run hcall hbase (keys := keys ++ [kf row]) (fun q hq => hmem q (.tail _ hq)) I2 ?_ (rus.mono x.le) ?_ fun V2 s2 ks2 e2 i2 hs2 r2 => fin V2 s2 ks2 e2 i2 hs2 (by simpa using r2)
    · obtain ⟨h1, t1, q1⟩ := hs
      obtain ⟨h2, t2, q2⟩ := x.same
      exact ⟨h', s'.toks, by rw [q2, q1]⟩
    · rw [List.map_append]
      exact (rk.mono x.le).append (.cons rv .nil)

theorem EvS.sortedKey {p : Program} {loose : List Str} {mean : ExcName → Option Value} {mg mb : Str → Option Value} (G : Gd w.params hB) (T : Top p loose mean mg mb hB) {np pos kp lp : Pos} {e : Expr} {rows : List (List Sc)} {r : List Nat} {kd : String}
    {params : Arguments} {body : Expr} {scope : Scope} {x : Str} {c tb : Addr} {ps : List (Nat × Nat)} {kf : List Sc → List Sc} {n : Nat}
    (hf : EvV prog w hB A env (.Name "sorted" np) (.builtin "sorted")) (he : Ev prog w hB A env ρ e (.lst (rows.map tupS)))
    (hcode : env.code = .ref c) (C : CodeHd hB c tb) (hnf : (ps.all fun q => !(q.1 == lp.line && q.2 == lp.col)) = true)
    (hdef : defaultsOf params env = ([], [])) (hcl : closureFor scope env = pure [])
    (hbind : ∀ pm ctv c' v, bindArgs (kla_fn "<lambda>" (env.qual ++ "<lambda>") params body scope [] pm (.ref c') ctv) ⟨[v], []⟩ = pure [(x, v)])
    (hx : scope.names.lookup x = some .local) (hxd : (x == ("__debug__" : Str)) = false) (hcell : ∀ y ∈ scope.names, y.2 ≠ .cell)
    (hR : Room (n + 3) A) (hkey : ∀ row ∈ rows, ∀ A env, Room n A → env.scope = scope → env.cells = [] → Ev prog w hB A env [(x, tupS row)] body (tupS (kf row)))
    (h2 : 2 ≤ rows.length) (h64 : rows.length < 64) (hal : ∀ a ∈ rows, ∀ b ∈ rows, alikeL (kf a) (kf b) = true) (hfst : ∀ a ∈ rows, ∃ c, (kf a)[0]? = some c ∧ ((kd = "int" ∧ c.alike (.i 0) = true) ∨ (kd = "str" ∧ c.alike (.s Str.empty) = true)))
    (hlt : ∀ i j, i < rows.length → j < rows.length → lexLt (kf (rows.getD i [])) (kf (rows.getD j [])) = ltR r i j) (hask : asksK (ltR r) rows.length (kas_sort rows.length) = true) (hin : ∀ i ∈ (runK (ltR r) (kas_sort rows.length)).toList, i < rows.length)
    (hsz : (runK (ltR r) (kas_sort rows.length)).toList.length ≤ 1000)
    (hse : starEach [e] env = [(false, eval e env)] := by rfl) (hsq : starEach (e :: []) env = (false, eval e env) :: starEach [] env := by rfl)
    (hco : scope.isCoroutine = false := by rfl) (hgen : scope.isGenerator = false := by rfl) (hk : scope.kind = .function := by rfl) :
    EvS prog w hB A env ρ ((anon, .tab ((tb, 0) :: ps)) :: μ) ((anon, .tab ((tb, 0) :: (ps ++ [(lp.line, lp.col)]))) :: μ) (.Call (.Name "sorted" np) [e] [⟨some "key", .Lambda params body scope lp, kp⟩] pos) (.lst (((runK (ltR r) (kas_sort rows.length)).toList.map fun i => rows.getD i []).map tupS)) := fun F V s E st => by
  refine wpAny_Call_Name_kw (hf V s ρ E _ st.st ?_)
  refine callWith_kw ?_ (by rw [hsq]; rfl) (by rw [hsq]; rfl)
  have hes := EvL.cons (pos := pos) he .nil hsq
  unfold EvL at hes
  refine wpAny_mono (hes V s E st.st) (fun us s₀ ⟨V₀, x₀, r₀⟩ => ?_) fun _ _ q => q
  have st₀ := st.ext x₀
  refine kws_cons ?_
  obtain ⟨F', vs, hF, hto, hti, hr⟩ := muAll_tab_shape st₀.mu
  subst hF
  refine eval_lambda T st₀ hcode C hnf hdef hcl fun f V₁ s₁ c' ctv pm x₁ st₁ hVf hcs => ?_
  refine kws_nil ?_
  refine RepAll.consE (fun r₁ r₂ => ?_) r₀
  (first | refine RepAll.nilE ?_ r₂ | refine Rep.intE (fun _ => ?_) r₂ | refine Rep.strE (fun _ => ?_) r₂ | refine Rep.boolE ?_ r₂ | cases r₂)
  refine Rep.lstE (fun {a us k} ev rr => ?_) r₁
  have ev₁ := x₁.le _ _ ev
  have rr₁ := rr.mono x₁.le
  have hul : us.length = rows.length := by rw [rr.length, List.length_map]
  obtain ⟨m, hm⟩ := st₁.st.ns
  have hF : Fr hB env.locals s₁.heap m := ⟨hm, st₁.st.stays, st₁.st.above⟩
  refine kat_sortedK (kw := [(Str.ofString "key", .ref f)]) (b := false) (f := .ref f) hF allNews_news (isList_of st₁.st.held ev₁) (by (first | lia | omega)) (by (first | lia | omega)) (ksk_s1 _ _) (fun x => ksk_l1 _ _) (fun x => ksk_t1 _ _) fun D kS e1 h' F' N' l0 l1 => ?_
  have keep1 : ∀ b o, b ≠ env.locals → s₁.heap.get? b = some o → h'.get? b = some o := allNews_keep st₁.st.stays F'.keep fun p hp => (N' p (.tail _ (.tail _ hp))).1
  have hDn : s₁.heap.get? D = none := by
    cases q : s₁.heap.get? D with
    | none => rfl
    | some o => exact absurd (l1 (D, o) (allNews_mk q (N' _ (.tail _ (.head _))).2.1 (N' _ (.tail _ (.head _))).2.2)) (Nat.lt_irrefl _)
  have hkn : s₁.heap.get? kS = none := by
    cases q : s₁.heap.get? kS with
    | none => rfl
    | some o => exact absurd (Nat.lt_trans l0 (l1 (kS, o) (allNews_mk q (N' _ (.head _)).2.1 (N' _ (.head _)).2.2))) (Nat.lt_irrefl _)
  have I : KInv w.params hB env.locals m V₁ s₁ kS D e1 V₁ h' [] 0 := {
    fr := F', held := fun b o eb => keep1 b o (fun q => by rw [q, st₁.st.locV] at eb; cases eb) (st₁.st.held b o eb), le := Vw.le_refl _, old := keep1, new := fun _ _ e => .inl e, locV := st₁.st.locV
    kO := (N' _ (.head _)).1, kV := st₁.st.held.gone hkn, kL := (N' _ (.head _)).2.1, kB := (N' _ (.head _)).2.2, kN := hkn
    dO := (N' _ (.tail _ (.head _))).1, dV := st₁.st.held.gone hDn, dL := (N' _ (.tail _ (.head _))).2.1, dB := (N' _ (.tail _ (.head _))).2.2, dN := hDn, kD := Nat.ne_of_gt l0 }
  refine katKeys_run (all := rows) (kf := kf) (keys := []) (fun row hrow V s v E hlow hb hV hle r => call_lambda G hR.in1.in1 hlow hb hV (hle _ _ hVf) ((hcs.mono hle).rec hV) r (hbind _ _ _ _) hx hxd hcell (hkey row hrow) hco hgen hk) st₁.st.base (fun _ q => q) I ⟨h', s₁.toks, rfl⟩ rr₁ .nil fun V' s' ks' e' I' hs' rk => ?_
  have hkl : ks'.length = rows.length := by rw [rk.length, List.nil_append, List.length_map, List.length_map]
  rw [List.nil_append] at rk
  obtain ⟨fs, hKT, hfl, hfk⟩ := kat_tups (kd := kd) (V := V') I'.held rk fun a ha => by
    obtain ⟨row, hrow, rfl⟩ := List.mem_map.mp ha
    exact hfst row hrow
  rw [List.length_map] at hfl
  refine kat_kind (T := .type kd) hKT (by rw [hfl]; (first | lia | omega)) (fun f hf => (hfk f hf).elim (fun ⟨q, n, t, e⟩ => by rw [q, e]; exact Looks.of_pure rfl) fun ⟨q, x, t, e⟩ => by rw [q, e]; exact Looks.of_pure rfl) (by simp) ?_
  have hkd : (Value.type kd != Value.type "tuple") = true := by
    obtain ⟨a₀, ha₀⟩ : ∃ a₀, a₀ ∈ rows := by
      cases rows with
      | nil => simp at h2
      | cons a₀ _ => exact ⟨a₀, .head _⟩
    obtain ⟨c, _, hc⟩ := hfst a₀ ha₀
    rcases hc with ⟨rfl, _⟩ | ⟨rfl, _⟩ <;> decide
  rw [hkd]
  have hulK : kas_sort us.length = kas_sort rows.length := by rw [hul]
  rw [hulK]
  have hrv : ∀ {α : Type} (l : List α), katRev false l = l := fun _ => rfl
  simp only [hrv]
  have hat : ∀ i, i < rows.length → ∃ b xs n, ks'.getD i Value.none = .ref b ∧ s'.heap.get? b = some (tupObj xs n) ∧ RepAll w.params V' xs ((kf (rows.getD i [])).map Sc.toD) := fun i hi => by
    obtain ⟨v, hv, rv⟩ := rk.get (i := i) (d := tupS (kf (rows.getD i []))) (by rw [List.getElem?_map, List.getElem?_map]; simp [List.getD, hi])
    have hu : ks'.getD i Value.none = v := by simp [List.getD, hv]
    rw [hu]
    refine Rep.tupE (fun eb rb => ?_) rv
    exact ⟨_, _, _, rfl, I'.held _ _ eb, rb⟩
  refine kasWp_run (lt := ltR r) (n := rows.length) (fun i j C hi hj hC => ?_) _ hask ?_
  · obtain ⟨b, xs, n, hb, hob, rb⟩ := hat i hi
    obtain ⟨b', ys, n', hb', hob', rb'⟩ := hat j hj
    unfold kas_ask
    rw [hb, hb']
    have hmem : ∀ i, i < rows.length → rows.getD i [] ∈ rows := fun i hi => by simp [List.getD, hi]
    have hali := hal _ (hmem i hi) _ (hmem j hj)
    refine kat_lt hob rfl hob' rfl ?_
    have hsz' : decide (xs.toArray.size < ys.toArray.size) = false := by
      have h1 : xs.length = (kf (rows.getD i [])).length := by rw [rb.length, List.length_map]
      have h2 : ys.length = (kf (rows.getD j [])).length := by rw [rb'.length, List.length_map]
      have h3 := alikeL_len hali
      simp only [List.size_toArray, decide_eq_false_iff_not]; (first | lia | omega)
    rw [hsz']
    exact katLex_sc 0 hali rb rb' (by rw [hlt i j hi hj]; exact hC)
  · refine KatFin.intro I'.fr I'.news I'.upd fun h2 c2 F2 N2 => KasFin.intro F2 N2 (.tail I'.kD (.head fun p hp => (othersK_of hp).2.2.2.2)) fun h3 c3 F3 N3 => ?_
    have keep3 : ∀ b o, b ≠ env.locals → b ≠ kS → b ≠ D → s'.heap.get? b = some o → h3.get? b = some o := fun b o hL hk hd eb => by
      cases hq : hB.get? b with
      | some o'' => have := I'.fr.keep b o'' hq; rw [eb] at this; cases this; exact F3.keep b _ hq
      | none => exact (N3 (b, o) (.tail _ (.tail _ (othersK_mk eb hL hq hk hd)))).1
    have hDo : h3.get? D = some (lstObj ((runK (ltR r) (kas_sort rows.length)).toList.map fun i => us.getD i Value.none) c3) := (N3 _ (.tail _ (.head _))).1
    obtain ⟨h4, t4, q4⟩ := hs'
    have X : Ext env V₁ s₁ (V'.put D (lstObj ((runK (ltR r) (kas_sort rows.length)).toList.map fun i => us.getD i Value.none) c3)) { s' with heap := h3 } := by
      refine Ext.mk1 ⟨h3, t4, by rw [q4]⟩ (fun b o hL eb => ?_) (fun o ho => ?_) (fun m' hm' => ?_) (I'.le.trans (Vw.le_put I'.dV)) (fun b o eb => ?_) (fun b o eb => ?_)
      · exact keep3 b o hL (fun q => by rw [q, I'.kN] at eb; cases eb) (fun q => by rw [q, I'.dN] at eb; cases eb) (I'.old b o hL eb)
      · obtain ⟨o', _, _, ho', _⟩ := F3.ns; exact ⟨o', ho'⟩
      · rw [ns_unique hm' hm]; exact F3.ns
      · by_cases q : b = D
        · exact .inr (q ▸ I'.dN)
        · rw [Vw.put_ne _ _ q] at eb; exact I'.new b o eb
      · by_cases q : b = D
        · subst q; rw [Vw.put_self] at eb; cases eb; exact hDo
        · rw [Vw.put_ne _ _ q] at eb
          exact keep3 b o (fun q => by rw [q, I'.locV] at eb; cases eb) (fun q => by rw [q, I'.kV] at eb; cases eb) q (I'.held b o eb)
    refine ⟨_, (x₀.toS.trans (fun _ q => .inl q) x₁).trans (fun _ q => .inl q) X.toS, st₁.ext X, .lst (Vw.put_self ..) ?_⟩
    rw [List.map_map]
    have : ∀ (l : List Nat), (∀ i ∈ l, i < rows.length) → RepAll w.params V₁ (l.map fun i => us.getD i Value.none) (l.map fun i => tupS (rows.getD i [])) := by
      intro l
      induction l with
      | nil => intro _; exact .nil
      | cons i l ih =>
        intro h
        obtain ⟨v, hv, rv⟩ := rr₁.get (i := i) (d := tupS (rows.getD i [])) (by rw [List.getElem?_map]; simp [List.getD, h i (.head _)])
        have hu : us.getD i Value.none = v := by simp [List.getD, hv]
        exact .cons (by show Rep _ _ (us.getD i Value.none) _; rw [hu]; exact rv) (ih fun j hj => h j (.tail _ hj))
    exact (this _ hin).mono (I'.le.trans (Vw.le_put I'.dV))
end
end Mine
set_option maxHeartbeats 400000
namespace Mine
/-- the class StatisticsError -/
abbrev seC : Addr := 66
theorem se_name (P : Params) : nsIn (KK P) mainGlobals "StatisticsError" = some (some (.ref seC)) := by with_unfolding_all rfl
theorem se_str (P : Params) : findIn (KK P) (.ref seC) "__str__" = some (some (.builtin "BaseException.__str__")) := by with_unfolding_all rfl
theorem se_sub (P : Params) : subIn (KK P) (.ref seC) (.type "BaseException") = some true := by with_unfolding_all rfl
theorem se_exc (P : Params) : excIn (KK P) seC [.type "ValueError", .type "Exception", .type "BaseException", .type "object"] "ValueError.__new__" = true := by with_unfolding_all rfl
theorem se_kts (P : Params) : ktsIn (KK P) seC "BaseException" = true := by with_unfolding_all rfl

section
variable {prog : Program} {w : World} {A : Around} {E : Value → Shared → Prop} {s : Shared} {e t : Addr} {o : Obj} {vs : Array Value} {P : Params}
open Builtin Builtin.Str Builtin.BaseException Builtin.Exceptions

theorem bexc_split : splitId "BaseException.__str__" = some ("BaseException", "__str__") := by decide +kernel
theorem bexc_kind : (Manifest.find? "BaseException").bind (·.attrs.lookup "__str__") = some .slot := by decide +kernel
theorem bexc_op : withoutEnding? "BaseException.__str__" "#opaque" = none := by decide +kernel
theorem bexc_dat : withoutEnding? "BaseException.__str__" "#data" = none := by decide +kernel
theorem bexc_plain : plainId "BaseException.__str__" = true := by decide +kernel
theorem bexc_builtinKind : builtinKind "BaseException.__str__" = some .slot := by simp only [builtinKind, bexc_split]; exact bexc_kind
theorem bexc_bind (self : Value) : bindSpecial (.builtin "BaseException.__str__") self = pure (.builtin "BaseException.__str__", [self]) := by
  simp only [bindSpecial, typeOf, builtinType, bexc_op, bexc_dat, bexc_builtinKind]; rfl

theorem check_slot_own {M : Model} {K : Frag} {C : Addr} {id owner n : String} {Q : Unit → Shared → Prop} (hk : builtinKind id = some .slot) (hsplit : splitId id = some (owner, n)) (X : K.In s.heap) (hsub : subIn K (.ref C) (.type owner) = some true) (ha : argsOk id ⟨[.ref e], []⟩)
    (ho : s.heap.get? e = some o) (hc : o.cls = .ref C) (hq : Q () s) : wpAny M A (checkBuiltinCall id ⟨[.ref e], []⟩) Q E s := by
  simp only [checkBuiltinCall, hk, hsplit]
  refine wpAny_bind (wpAny_bind (Looks.here (show Looks M s.heap (typeOf (.ref e)) o.cls from (Looks.ld ho).andThen .now) ?_))
  rw [hc]
  refine (looks_subIn X hsub).here ?_
  simp only [Bool.not_true, Bool.false_eq_true, if_false]
  cases hsig : Manifest.signature? id with
  | none => exact wpAny_pure hq
  | some sig =>
    simp only [argsOk, hsig] at ha
    have h2 : Bind.checkArgs id sig ⟨[.ref e], []⟩ = pure () := ha
    show wpAny M A (Bind.checkArgs id sig ⟨[.ref e], []⟩) Q E s
    rw [h2]; exact wpAny_pure hq
theorem check_bexcStr {M : Model} {Q : Unit → Shared → Prop} (X : (KK P).In s.heap) (ho : s.heap.get? e = some o) (hc : o.cls = .ref seC) (hq : Q () s) : wpAny M A (checkBuiltinCall "BaseException.__str__" ⟨[.ref e], []⟩) Q E s :=
  check_slot_own (M := M) (K := KK P) (C := seC) (id := "BaseException.__str__") (owner := "BaseException") (n := "__str__") (e := e) (o := o) bexc_builtinKind bexc_split X (se_sub P) (F.args_bexc_str (.ref e)) ho hc hq

theorem bexcStr_own {m : Str} {u : Tok} {Q : PySem.Fin → Shared → Prop} (ho : s.heap.get? e = some o) (hd : o.data = .fields vs) (h0 : vs[0]? = some (.ref t)) (ht : s.heap.TupAt t [.str m u]) (hq : Q (.done (.ret (.str m u))) s) :
    wpAny (model prog w) A (Builtin.«BaseException.__str__» ⟨[.ref e], []⟩) Q E s := by
  have hargs : ∀ {Q : Value × List Value → Shared → Prop}, Q (.ref t, [.str m u]) s → wpAny (model prog w) A (bexcArgs (.ref e)) Q E s := fun {Q} hq => by
    obtain ⟨ot, k, hto, _, htd⟩ := ht
    unfold bexcArgs
    exact wpAny_bind (wpAny_field ho hd h0 (wpAny_bind (wpAny_seqItems hto htd (wpAny_pure hq))))
  unfold Builtin.«BaseException.__str__»
  repeat (first | with_reducible refine hargs ?_ | wp_step)
  exact hq

theorem call_bexcStr {m : Str} {u : Tok} {Q : Value → Shared → Prop} (X : (KK P).In s.heap) (ho : s.heap.get? e = some o) (hc : o.cls = .ref seC) (hd : o.data = .fields vs) (h0 : vs[0]? = some (.ref t)) (ht : s.heap.TupAt t [.str m u]) (hq : Q (.str m u) s) :
    wpAny (model prog w) A (call (.builtin "BaseException.__str__") [.ref e]) Q E s :=
  wpAny_call (codeAny_call_builtin bexc_plain F.entry_bexc_str (check_bexcStr X ho hc (bexcStr_own ho hd h0 ht hq)))

theorem str_own_exc {m : Str} {u : Tok} {Q : Value → Shared → Prop} (hu : A.units + 10 < cLine) (X : (KK P).In s.heap) (ho : s.heap.get? e = some o) (hc : o.cls = .ref seC) (hd : o.data = .fields vs) (h0 : vs[0]? = some (.ref t)) (ht : s.heap.TupAt t [.str m u]) (hq : Q (.str m u) s) :
    wpAny (model prog w) A (call (.type "str") [.ref e]) Q E s := by
  refine callType_codes (T := "str") (Bi := Builtin.«object.__init__») (Q₁ := fun r s₁ => r = .str m u ∧ s₁ = s) PySem.F.called_str (PySem.F.typeCall_str_1 _) PySem.F.entry_object_init ?_ ?_
  · refine codeAny_of_tree ?_
    show wpAny _ A.in1.in1 (do checkBuiltinCall "str.__new__" ⟨[.type "str", .ref e], []⟩; again (.builtin "str.__new__" ⟨[.type "str", .ref e], []⟩)) _ _ s
    refine wpAny_bind (wpAny_of_eq (PySem.F.newCall_str_1 _) (wpAny_pure ⟨plainId_quiet (by decide +kernel) _, codeAny_builtin PySem.F.entry_str_new ?_⟩))
    rw [Around.under_plainId (by decide +kernel) _]
    rw [str_new_tree]
    refine wpAny_bind (wpAny_pure ?_)
    refine wpAny_bind (wpAny_of_eq isSubtype_str_str ?_)
    refine wpAny_bind ?_
    unfold PySem.Builtin.Str.strOf
    rw [show isExactStr (.ref e) = false from rfl]
    refine wpAny_bind (m := cRoomFor _ _) (wpAny_cRoomFor (by show A.units + 1 + 1 < cLine; (first | lia | omega)) ?_)
    refine wpAny_bind (m := callSpecial? (.ref e) (Str.ofString "__str__")) ?_
    unfold callSpecial? specialOf
    refine wpAny_bind (wpAny_bind (Looks.here (show Looks _ s.heap (typeOf (.ref e)) o.cls from (Looks.ld ho).andThen .now) ?_))
    rw [hc]
    refine (looks_findIn X (se_str P)).here ?_
    refine wpAny_holding ?_
    rw [bexc_bind]
    refine wpAny_bind (wpAny_pure (wpAny_bind (call_bexcStr X ho hc hd h0 ht (wpAny_pure ?_))))
    exact wpAny_pure (wpAny_pure ⟨rfl, rfl⟩)
  · rintro obj s₁ ⟨rfl, rfl⟩
    exact ⟨typeIs_str _ _ _, PySem.F.args_object_init_2 _ _, object_init_meets PySem.F.called_str.init.lookup PySem.F.called_str.made (by decide) prog w A.in1 _ s₁ ⟨typeIs_str _ _ _, rfl, hq⟩⟩
end
end Mine
set_option maxHeartbeats 400000
namespace Mine
section
variable {prog : Program} {w : World} {hB : Heap} {A : Around} {E : Value → Shared → Prop} {s : Shared}

/-- a call of a def, its errors too -/
theorem call_def_raw (G : Gd w.params hB) {f : Addr} {fd : FuncData} {o : Obj} {body : List Stmt} {vs : List Value} {binds : List (Str × Value)} {Q : Value → Shared → Prop} (ho : (KK w.params).lookup f = some o) (hdata : o.data = .func fd) (hcd : codeIn (KK w.params) fd.code fd.qualname = true)
    (hbody : fd.body = .stmts body) (hglob : fd.globals = mainGlobals) (hblt : fd.builtins = builtinsNs) (hclo : fd.closure = []) (hbind : bindArgs fd ⟨vs, []⟩ = pure binds)
    (hcell : ∀ x ∈ fd.scope.names, x.2 ≠ .cell) (hloc : ∀ x ∈ binds, fd.scope.names.lookup x.1 = some .local) (hst : ∀ a o, hB.get? a = some o → s.heap.get? a = some o) (hroom : A.depth < recursionLimit)
    (h : ∀ h₁, h₁.Ns s.heap.objs.size (fun x => binds.reverse.lookup x) → (∀ b o, s.heap.get? b = some o → h₁.get? b = some o) →
      wpAny (model prog w) (A.deeper (envOf fd.qualname fd.scope s.heap.objs.size f fd.code)) (execs body (envOf fd.qualname fd.scope s.heap.objs.size f fd.code)) (fun fl s' => Q (match fl with | .ret v => v | _ => .none) s')
        (fun e s' => wpAny (model prog w) (A.deeper (envOf fd.qualname fd.scope s.heap.objs.size f fd.code)) (leaving (envOf fd.qualname fd.scope s.heap.objs.size f fd.code) e) (fun _ s'' => E e s'') (fun e' s'' => E e' s'') s')
        { s with heap := h₁, toks := s.toks + binds.length })
    (hco : fd.scope.isCoroutine = false := by rfl) (hgen : fd.scope.isGenerator = false := by rfl) (hk : fd.scope.kind = .function := by rfl) :
    wpAny (model prog w) A (call (.ref f) vs) Q E s := by
  have henv : callEnv fd s.heap.objs.size f = envOf fd.qualname fd.scope s.heap.objs.size f fd.code := by
    unfold callEnv envOf newEnv
    rw [hglob, hblt, hclo]
  have hKin := G.kin.keeps hst
  refine wpAny_call (codeAny_call_def hroom (hKin _ _ ho) hdata (G.nolim.keeps hst) (codeRec_of hKin hcd) hbody (BindsTo.of_eq hbind) hcell hloc (fun h₁ hns hk₁ => ?_) hco hgen hk)
  rw [henv]
  exact h h₁ hns hk₁

/-- the median of an empty column is refused -/
theorem median_raises (G : Gd w.params hB) {n : Nat} {f l : Addr} {fd : FuncData} {o : Obj} {rest : List Stmt} {base : Heap} {outer : List Env} {m : Nat} {p₁ p₂ p₃ p₄ p₅ p₆ p₇ p₈ p₉ q₁ q₂ q₃ q₄ q₅ q₆ q₇ q₈ q₉ : Pos} {k₁ k₂ : Nat} {Q : Value → Shared → Prop}
    (ho : (KK w.params).lookup f = some o) (hdata : o.data = .func fd) (hcd : codeIn (KK w.params) fd.code fd.qualname = true)
    (hbody : fd.body = .stmts (.Assign [.Name "data" p₁] (.Call (.Name "sorted" p₂) [.Name "data" p₃] [] p₄) p₅ :: .Assign [.Name "n" p₆] (.Call (.Name "len" p₇) [.Name "data" p₈] [] p₉) q₁ ::
      .If (.Compare (.Name "n" q₂) [.Eq] [.Constant (.int 0) k₁ q₃] q₄) [.Raise (some (.Call (.Name "StatisticsError" q₅) [.Constant (.str "no median for empty data") k₂ q₆] [] q₇)) none q₈] [] q₉ :: rest))
    (hglob : fd.globals = mainGlobals) (hblt : fd.builtins = builtinsNs) (hclo : fd.closure = []) (hbind : ∀ v, bindArgs fd ⟨[v], []⟩ = pure [(("data" : Str), v)])
    (hcell : ∀ x ∈ fd.scope.names, x.2 ≠ .cell) (hd : fd.scope.names.lookup ("data" : Str) = some .local) (hn : fd.scope.names.lookup ("n" : Str) = some .local)
    (hs : fd.scope.names.lookup ("sorted" : Str) = some .globalImplicit) (hln : fd.scope.names.lookup ("len" : Str) = some .globalImplicit) (hsee : fd.scope.names.lookup ("StatisticsError" : Str) = some .globalImplicit)
    (hR : Room (n + 1) A) (hlow : hB.objs.size ≤ s.heap.objs.size) (hst : ∀ a o, hB.get? a = some o → s.heap.get? a = some o) (hl : s.heap.get? l = some (lstObj [] m)) (K : Below A base outer s.heap)
    (hE : ∀ h' tk e t u, RaisedS base s.heap outer e (.ref seC) t [.str msgS u] [] h' → s.heap.UpToSlots h' → E (.ref e) { s with heap := h', toks := tk })
    (hco : fd.scope.isCoroutine = false := by rfl) (hgen : fd.scope.isGenerator = false := by rfl) (hk : fd.scope.kind = .function := by rfl) :
    wpAny (model prog w) A (call (.ref f) [.ref l]) Q E s := by
  refine call_def_raw G ho hdata hcd hbody hglob hblt hclo (hbind _) hcell (fun x hx => by rw [List.mem_singleton.mp hx]; exact hd) hst (by have := hR.depth; (first | lia | omega)) (fun h₁ hns hk₁ => ?_) hco hgen hk
  let env := envOf fd.qualname fd.scope s.heap.objs.size f fd.code
  show wpAny (model prog w) (A.deeper env) (execs _ env) _ _ _
  have hR' := hR.deeper env
  let V : Vw := s.heap.get?
  have st : St w.params hB env [("data", .lst (([] : List Int).map D.int))] V { s with heap := h₁, toks := s.toks + [(("data" : Str), Value.ref l)].length } := {
    base := hst, held := hk₁, fn := hk, glob := rfl, blt := rfl, above := hlow, locV := get_size_none _ (Nat.le_refl _), ns := ⟨_, hns⟩
    cell := fun y c hc => by cases hc
    apart := .nil
    frm := fun g hg => by
      cases hg
      exact ⟨get_size_none _ (Nat.le_refl _), _, hns⟩
    names := fun y d₁ hy => by
      rcases lookup_cons_of hy with ⟨rfl, rfl⟩ | ⟨_, hy⟩
      · exact ⟨by decide, .ref l, .lst (n := m) hl .nil, .inl ⟨hd, _, hns, by simp⟩⟩
      · cases hy }
  have hkS : env.kindOf "sorted" = some .globalImplicit := hs
  have hkL : env.kindOf "len" = some .globalImplicit := hln
  have e1 : Ex1 prog w hB (A.deeper env) env [("data", .lst (intsD []))] [] (.Assign [.Name "data" p₁] (.Call (.Name "sorted" p₂) [.Name "data" p₃] [] p₄) p₅) (.next [("data", .lst (intsD (sortI []))), ("data", .lst (intsD []))] []) :=
    Ex1.assign (Ev.m (Ev.call (EvV.blt G (by with_unfolding_all rfl) rfl (hx := hkS)) kept_blt (EvL.cons (Ev.name rfl) EvL.nil) hR' (fn_sorted_ints (by decide)))) ⟨by decide, .inl hd⟩ nomu
  have e2 : Ex1 prog w hB (A.deeper env) env [("data", .lst (intsD (sortI []))), ("data", .lst (intsD []))] [] (.Assign [.Name "n" p₆] (.Call (.Name "len" p₇) [.Name "data" p₈] [] p₉) q₁) (.next [("n", .int ((sortI []).length : Nat)), ("data", .lst (intsD (sortI []))), ("data", .lst (intsD []))] []) :=
    Ex1.assign (Ev.m (Ev.call (EvV.blt G (by with_unfolding_all rfl) rfl (hx := hkL)) kept_blt (EvL.cons (Ev.name rfl) EvL.nil) hR' (fn_len_map (g := D.int) (items := sortI []) (by rw [sortI_length]; decide)))) ⟨by decide, .inl hn⟩ nomu
  have stm : StM w.params hB env [("data", .lst (intsD []))] [] [] V { s with heap := h₁, toks := s.toks + [(("data" : Str), Value.ref l)].length } := ⟨st, .nil, List.nodup_nil, fun _ h => nomatch h⟩
  refine wpAny_execs_cons (wpAny_mono (e1 [] V _ _ stm) (fun fl s₁ ⟨V₁, x₁, hf₁, F₁, hF₁, st₁⟩ => ?_) fun _ _ e => e)
  subst hf₁
  refine wpAny_execs_cons (wpAny_mono (e2 F₁ V₁ s₁ _ st₁) (fun fl s₂ ⟨V₂, x₂, hf₂, F₂, hF₂, st₂⟩ => ?_) fun _ _ e => e)
  subst hf₂
  have tst : Tst prog w hB (A.deeper env) env [("n", .int ((sortI []).length : Nat)), ("data", .lst (intsD (sortI []))), ("data", .lst (intsD []))] (.Compare (.Name "n" q₂) [.Eq] [.Constant (.int 0) k₁ q₃] q₄) true :=
    Tst.cmp (Ev.name rfl) Ev.int (by have : (true : Bool) = (((sortI []).length : Int) == 0) := by rw [sortI_length]; rfl
                                     rw [this]; exact op_eq)
  refine wpAny_execs_cons (wpAny_If (wpAny_mono (tst V₂ s₂ _ st₂.st) (fun c s₃ ⟨hc, V₃, x₃⟩ => ?_) fun _ _ e => e))
  subst hc
  simp only [if_true]
  have st₃ := st₂.st.ext x₃
  obtain ⟨mL, hmL⟩ := st₃.ns
  have hle : V.le V₃ := x₁.le.trans (x₂.le.trans x₃.le)
  have F : Fr s.heap s.heap.objs.size s₃.heap mL := ⟨hmL, fun b o e => st₃.held b o (hle b o e), Nat.le_refl _⟩
  obtain ⟨p, loose, mg, mb, T⟩ := G.top
  have T' := T.keeps hst
  have X' := G.kin.keeps hst
  have hO := own_of_in X' T' (se_name w.params) (se_exc w.params)
  refine wpAny_execs_cons (Raise_own F T'.g hO PySem.F.excBase_ValueError hR'.handled ?_ rfl rfl hk hsee (by decide))
  have hsame : ∃ h4 t4, s₃ = { s with heap := h4, toks := t4 } := by
    obtain ⟨a1, a2, a3⟩ := x₁.same
    obtain ⟨b1, b2, b3⟩ := x₂.same
    obtain ⟨c1, c2, c3⟩ := x₃.same
    exact ⟨c1, c2, by rw [c3, b3, a3]⟩
  obtain ⟨h4, t4, q4⟩ := hsame
  subst q4
  refine spliced_more (Constant_str (spliced_none ⟨by show 1 ≤ sizeLine; rw [sizeLine_eq]; decide, F.keep, fun h' e hm => ?_⟩))
  refine leave_raiseS K hm F News.nil (fun h'' t hRS _ hup => ?_) hk
  exact hE h'' _ e t _ hRS hup
end
end Mine
set_option maxHeartbeats 400000
namespace Mine
@[elab_as_elim] theorem RepAll.oneE {P : Params} {V : Vw} {motive : List Value → Prop} (h : ∀ {a : Addr} {k : Nat}, V a = some (lstObj [] k) → motive [.ref a]) {vs : List Value} (r : RepAll P V vs [.lst []]) : motive vs := by
  refine RepAll.consE (fun r₁ r₂ => ?_) r
  refine RepAll.nilE ?_ r₂
  refine Rep.lstE (fun {a us k} ev rr => ?_) r₁
  cases rr using RepAll.nilE
  exact h ev
/-- a text comes back; of what was there, the frame alone is looked at -/
noncomputable def LowPost (s : Shared) (Λ : Addr) (x : Str) (v : Value) (s' : Shared) : Prop :=
  (∃ t, v = .str x t) ∧ (∃ h' tk, s' = { s with heap := h', toks := tk }) ∧ (∀ b o, b ≠ Λ → s.heap.get? b = some o → s'.heap.get? b = some o) ∧ (∀ o, s.heap.get? Λ = some o → ∃ sl, s'.heap.get? Λ = some { o with slots := sl })

section
variable {prog : Program} {w : World} {hB : Heap} {A : Around} {E : Value → Shared → Prop} {s : Shared}

theorem catch_empty {p : Program} {loose : List Str} {mean : ExcName → Option Value} {mg mb : Str → Option Value} (G : Gd w.params hB) (T : Top p loose mean mg mb hB) {n : Nat} {f fm l Λ : Addr} {env0 : Env} {oΛ : Obj} {fd : FuncData} {o : Obj} {x : Str} {m : Nat} {p₁ p₂ p₃ p₄ p₅ p₆ p₇ p₈ p₉ q₁ q₂ : Pos}
    (ho : (KK w.params).lookup f = some o) (hdata : o.data = .func fd) (hcd : codeIn (KK w.params) fd.code fd.qualname = true)
    (hbody : fd.body = .stmts [.Try [.Return (some (.Call (.Name x p₁) [.Name "column" p₂] [] p₃)) p₄] [.ExceptHandler (some (.Name "StatisticsError" p₅)) (some "error") [.Return (some (.Call (.Name "str" p₆) [.Name "error" p₇] [] p₈)) p₉] q₁] [] [] q₂])
    (hglob : fd.globals = mainGlobals) (hblt : fd.builtins = builtinsNs) (hclo : fd.closure = []) (hbind : ∀ v, bindArgs fd ⟨[v], []⟩ = pure [(("column" : Str), v)])
    (hcell : ∀ x ∈ fd.scope.names, x.2 ≠ .cell) (hc : fd.scope.names.lookup ("column" : Str) = some .local) (he : fd.scope.names.lookup ("error" : Str) = some .local)
    (hxk : fd.scope.names.lookup x = some .globalImplicit) (hstr : fd.scope.names.lookup ("str" : Str) = some .globalImplicit) (hsee : fd.scope.names.lookup ("StatisticsError" : Str) = some .globalImplicit)
    (hxm : nsIn (KK w.params) mainGlobals x = some (some (.ref fm))) (hxd : (x == ("__debug__" : Str)) = false) (hkp : keepIn (KK w.params) (.ref fm) = true)
    (hmed : ∀ {l : Addr} {m : Nat} {A : Around} {E : Value → Shared → Prop} {s : Shared} {base : Heap} {outer : List Env} {Q : Value → Shared → Prop}, Room (n + 1) A → hB.objs.size ≤ s.heap.objs.size → (∀ a o, hB.get? a = some o → s.heap.get? a = some o) → s.heap.get? l = some (lstObj [] m) → Below A base outer s.heap →
      (∀ h' tk e t u, RaisedS base s.heap outer e (.ref seC) t [.str msgS u] [] h' → s.heap.UpToSlots h' → E (.ref e) { s with heap := h', toks := tk }) → wpAny (model prog w) A (call (.ref fm) [.ref l]) Q E s)
    (hR : Room (n + 2) A) (hlow : hB.objs.size ≤ s.heap.objs.size) (hst : ∀ a o, hB.get? a = some o → s.heap.get? a = some o) (hl : s.heap.get? l = some (lstObj [] m))
    (hfr : A.frames = some [env0]) (hk0 : env0.scope.kind ≠ .module) (hf0 : env0.frame = some Λ) (hΛ : s.heap.get? Λ = some oΛ) (hΛd : ∃ es ep, oΛ.data = .dict es ep) (hΛB : hB.get? Λ = none)
    (hco : fd.scope.isCoroutine = false := by rfl) (hgen : fd.scope.isGenerator = false := by rfl) (hk : fd.scope.kind = .function := by rfl) :
    wpAny (model prog w) A (call (.ref f) [.ref l]) (LowPost s Λ msgS) E s := by
  have hfs : [env0].filterMap (·.frame) = [Λ] := by simp [hf0]
  have hbst : ∀ b o, hB.get? b = some o → (hideAll s.heap [Λ]).get? b = some o := fun b o e => hideAll_get _ (hst b o e) fun q => by rw [List.mem_singleton.mp q, hΛB] at e; cases e
  have K0 : Below A (hideAll s.heap [Λ]) [env0] s.heap := ⟨hfr, fun b o e => of_hideAll _ e, hk0, ⟨Λ, oΛ, hf0, hideAll_none _ (by simp), hΛ, fun vs q => by obtain ⟨es, ep, h⟩ := hΛd; rw [h] at q; cases q⟩, trivial⟩
  refine call_def_raw G ho hdata hcd hbody hglob hblt hclo (hbind _) hcell (fun x hx => by rw [List.mem_singleton.mp hx]; exact hc) hst (by have := hR.depth; (first | lia | omega)) (fun h₁ hns hk₁ => ?_) hco hgen hk
  have hR1 := hR.deeper (envOf fd.qualname fd.scope s.heap.objs.size f fd.code)
  have st : St w.params hB (envOf fd.qualname fd.scope s.heap.objs.size f fd.code) [("column", .lst [])] s.heap.get? { s with heap := h₁, toks := s.toks + [(("column" : Str), Value.ref l)].length } := {
    base := hst, held := hk₁, fn := hk, glob := rfl, blt := rfl, above := hlow, locV := get_size_none _ (Nat.le_refl _), ns := ⟨_, hns⟩
    cell := fun y c hc => by cases hc
    apart := .nil
    frm := fun g hg => by
      cases hg
      exact ⟨get_size_none _ (Nat.le_refl _), _, hns⟩
    names := fun y d₁ hy => by
      rcases lookup_cons_of hy with ⟨rfl, rfl⟩ | ⟨_, hy⟩
      · exact ⟨by decide, .ref l, .lst (n := m) hl .nil, .inl ⟨hc, _, hns, by simp⟩⟩
      · cases hy }
  refine wpAny_execs_cons (wpAny_Try_except ?_)
  refine wpAny_execs_cons (wpAny_Return_some (wpAny_Call_NameR ?_))
  refine EvV.glob (prog := prog) (A := A.deeper (envOf fd.qualname fd.scope s.heap.objs.size f fd.code)) (env := envOf fd.qualname fd.scope s.heap.objs.size f fd.code) G hxm hxk hxd _ _ _ _ _ st ?_
  refine callWith_ev (first := []) st (kept_K G hkp) (EvL.cons (Ev.name rfl) EvL.nil) fun vs V₁ s₁ x₁ r₁ => ?_
  refine RepAll.oneE (fun {a k} ev => ?_) r₁
  have st₁ := st.ext x₁
  obtain ⟨m₁, hm₁⟩ := st₁.ns
  have F1 : Fr s.heap s.heap.objs.size s₁.heap m₁ := ⟨hm₁, fun b o e => st₁.held b o (x₁.le b o e), Nat.le_refl _⟩
  have K1 := K0.push (name := fd.qualname) (scope := fd.scope) (a := f) (cd := fd.code) F1 hk
  have hsm : ∃ h4 t4, s₁ = { s with heap := h4, toks := t4 } := let ⟨a1, a2, a3⟩ := x₁.same; ⟨a1, a2, by rw [a3]⟩
  refine match hsm with | ⟨h4, t4, q4⟩ => ?_
  subst q4
  refine hmed hR1 st₁.low st₁.stays (st₁.held _ _ ev) K1 fun h' tk e t u hRS hup => ?_
  obtain ⟨es, ep, hed⟩ := hΛd
  refine caught_SOB (g₀ := s.heap) hRS F1 K0 hup (G.kin.keeps hbst) (T.keeps hbst) (fun b hb => by rw [hfs] at hb; rw [List.mem_singleton.mp hb]; exact ⟨oΛ, es, ep, hΛ, hed⟩) KtsTurn.refl (se_name w.params) (se_kts w.params) (fun h2 g' news₂ tk2 T1 F2 N2 Got2 Nl K2 X2 P2 D2 => ?_) hk he hsee (by decide)
  refine wpAny_execs_cons (wpAny_Return_some (wpAny_Call_NameR (name_B F2 X2 (topRead_of P2) (by with_unfolding_all rfl) rfl (by decide) ?_ hk hstr (by decide))))
  refine callWith_type1 (spliced_more (wpAny_Name (wpAny_loadName_local (v := .ref e) hk he F2.ns (by simp) ?_) (by decide)))
  refine spliced_none ?_
  refine match Got2 with | ⟨oe, ot, ws, nt, g1, g2, g3, g4, g5, g6, g7⟩ => ?_
  refine str_own_exc ?_ (X2.keeps F2.keep) (N2 _ g1).1 g3 g4 g5 ⟨ot, nt, (N2 _ g2).1, g6, g7⟩ ?_
  · have := hR1.units
    show (A.deeper (envOf fd.qualname fd.scope s.heap.objs.size f fd.code)).units + 10 < cLine
    (first | lia | omega)
  · refine name_goes_keeps F2 N2 (fun h3 v3 F3 N3 => ?_) hk he
    exact ⟨⟨u, rfl⟩, ⟨h3, _, rfl⟩, fun b o hb eb => F3.keep b o (T1.other b o eb (by rw [hfs]; simpa using hb)), fun o eo => by
      obtain ⟨sl, hs⟩ := T1.frame Λ o eo (by rw [hfs]; simp)
      exact ⟨sl, F3.keep _ _ hs⟩⟩

theorem call_low0 {p : Program} {loose : List Str} {mean : ExcName → Option Value} {mg mb : Str → Option Value} (G : Gd w.params hB) (T : Top p loose mean mg mb hB) {n : Nat} {l Λ : Addr} {env0 : Env} {oΛ : Obj} {m : Nat}
    (hR : Room (n + 2) A) (hlow : hB.objs.size ≤ s.heap.objs.size) (hst : ∀ a o, hB.get? a = some o → s.heap.get? a = some o) (hl : s.heap.get? l = some (lstObj [] m))
    (hfr : A.frames = some [env0]) (hk0 : env0.scope.kind ≠ .module) (hf0 : env0.frame = some Λ) (hΛ : s.heap.get? Λ = some oΛ) (hΛd : ∃ es ep, oΛ.data = .dict es ep) (hΛB : hB.get? Λ = none) :
    wpAny (model prog w) A (call (.ref 119) [.ref l]) (LowPost s Λ msgS) E s :=
  catch_empty (f := 119) (fm := 76) (x := "median_low") G T rfl rfl (by with_unfolding_all rfl) rfl rfl rfl rfl (fun v => rfl) (by decide) rfl rfl rfl rfl rfl (by with_unfolding_all rfl) (by decide) (by with_unfolding_all rfl)
    (fun {l m A E s base outer Q} h1 h2 h3 h4 h5 h6 => median_raises (f := 76) G rfl rfl (by with_unfolding_all rfl) rfl rfl rfl rfl (fun v => rfl) (by decide) rfl rfl rfl rfl rfl h1 h2 h3 h4 h5 h6 rfl rfl rfl)
    hR hlow hst hl hfr hk0 hf0 hΛ hΛd hΛB rfl rfl rfl
theorem call_high0 {p : Program} {loose : List Str} {mean : ExcName → Option Value} {mg mb : Str → Option Value} (G : Gd w.params hB) (T : Top p loose mean mg mb hB) {n : Nat} {l Λ : Addr} {env0 : Env} {oΛ : Obj} {m : Nat}
    (hR : Room (n + 2) A) (hlow : hB.objs.size ≤ s.heap.objs.size) (hst : ∀ a o, hB.get? a = some o → s.heap.get? a = some o) (hl : s.heap.get? l = some (lstObj [] m))
    (hfr : A.frames = some [env0]) (hk0 : env0.scope.kind ≠ .module) (hf0 : env0.frame = some Λ) (hΛ : s.heap.get? Λ = some oΛ) (hΛd : ∃ es ep, oΛ.data = .dict es ep) (hΛB : hB.get? Λ = none) :
    wpAny (model prog w) A (call (.ref 126) [.ref l]) (LowPost s Λ msgS) E s :=
  catch_empty (f := 126) (fm := 83) (x := "median_high") G T rfl rfl (by with_unfolding_all rfl) rfl rfl rfl rfl (fun v => rfl) (by decide) rfl rfl rfl rfl rfl (by with_unfolding_all rfl) (by decide) (by with_unfolding_all rfl)
    (fun {l m A E s base outer Q} h1 h2 h3 h4 h5 h6 => median_raises (f := 83) G rfl rfl (by with_unfolding_all rfl) rfl rfl rfl rfl (fun v => rfl) (by decide) rfl rfl rfl rfl rfl h1 h2 h3 h4 h5 h6 rfl rfl rfl)
    hR hlow hst hl hfr hk0 hf0 hΛ hΛd hΛB rfl rfl rfl
end
end Mine
set_option maxHeartbeats 400000
namespace Mine
/-- what low and high give -/
noncomputable def lowF (c : List Int) : D := if c = [] then .str msgS else .int ((sortI c).getD ((c.length - 1) / 2) 0)
noncomputable def highF (c : List Int) : D := if c = [] then .str msgS else .int ((sortI c).getD (c.length / 2) 0)

section
variable {prog : Program} {w : World} {hB : Heap} {A : Around} {env : Env} {ρ : Nm}

theorem low_ext {V : Vw} {s s' : Shared} {Λ : Addr} {x : Str} {v : Value} (h : LowPost s Λ x v s') (hV : Held V s) (hf : env.frame = some Λ) (hn : V Λ = none ∧ ∃ m, s.heap.Ns Λ m) : Ext env V s V s' ∧ ∃ t, v = .str x t := by
  obtain ⟨⟨t, rfl⟩, hs, hk, hl⟩ := h
  have ns : ∀ a m, s.heap.Ns a m → s'.heap.Ns a m := fun a m n => by
    by_cases q : a = Λ
    · subst q
      obtain ⟨o, es, ep, ho, r⟩ := n
      obtain ⟨sl, hsl⟩ := hl o ho
      exact ⟨_, es, ep, hsl, r⟩
    · exact n.at' fun o e => hk a o q e
  have loc : ∀ a o, s.heap.get? a = some o → ∃ o', s'.heap.get? a = some o' := fun a o e => by
    by_cases q : a = Λ
    · subst q; obtain ⟨sl, hsl⟩ := hl o e; exact ⟨_, hsl⟩
    · exact ⟨o, hk a o q e⟩
  exact ⟨⟨hs, fun a o _ nf e => hk a o (fun q => nf (q ▸ hf)) e, fun o e => loc _ o e, fun m n => ns _ m n, fun f o _ e => loc f o e, fun f m _ n => ns f m n, V.le_refl, fun _ _ e => .inl e, fun a o e => hk a o (fun q => by rw [q, hn.1] at e; cases e) (hV a o e)⟩, t, rfl⟩

theorem sortI_get {c : List Int} {k : Nat} (hk : k < c.length) : (sortI c)[k]? = some ((sortI c).getD k 0) := by
  have : k < (sortI c).length := by rw [sortI_length]; exact hk
  simp [List.getD, this]

theorem Ev.caught {np pos : Pos} {e : Expr} {x : Str} {f : Addr} {n : Nat} {Λ : Addr} {env0 : Env} (G : Gd w.params hB) (hf : EvV prog w hB A env (.Name x np) (.ref f)) (hk : keepIn (KK w.params) (.ref f) = true)
    (he : Ev prog w hB A env ρ e (.lst (intsD []))) (hfr : A.frames = some [env0]) (hf0 : env0.frame = some Λ) (hfe : env.frame = some Λ)
    (hcall : ∀ {s : Shared} {l : Addr} {m : Nat} {E : Value → Shared → Prop} {oΛ : Obj}, hB.objs.size ≤ s.heap.objs.size → (∀ a o, hB.get? a = some o → s.heap.get? a = some o) → s.heap.get? l = some (lstObj [] m) → s.heap.get? Λ = some oΛ → (∃ es ep, oΛ.data = .dict es ep) → hB.get? Λ = none →
      wpAny (model prog w) A (PySem.call (.ref f) [.ref l]) (LowPost s Λ msgS) E s)
    (hse : starEach [e] env = [(false, eval e env)] := by rfl) : Ev prog w hB A env ρ (.Call (.Name x np) [e] [] pos) (.str msgS) := fun V s E st => by
  refine wpAny_Call_NameR (hf V s ρ E _ st ?_)
  refine callWith_ev (first := []) st (kept_K G hk) (EvL.cons he .nil hse) (fun vs V₁ s₁ x₁ r₁ => ?_) hse (by rfl)
  refine RepAll.oneE (fun {a k} ev => ?_) r₁
  have st₁ := st.ext x₁
  obtain ⟨hVn, m, hm⟩ := st₁.frm Λ hfe
  have hm' := hm
  obtain ⟨oΛ, es, ep, hoΛ, hdΛ, _⟩ := hm
  have hΛB : hB.get? Λ = none := by
    cases q : hB.get? Λ with
    | none => rfl
    | some o => have := st₁.base Λ o q; rw [hVn] at this; cases this
  refine wpAny_mono (hcall st₁.low st₁.stays (st₁.held _ _ ev) hoΛ ⟨es, ep, hdΛ⟩ hΛB) (fun v s' h => ?_) fun _ _ e => e
  obtain ⟨X, t, rfl⟩ := low_ext h st₁.held hfe ⟨hVn, m, hm'⟩
  exact ⟨V₁, x₁.trans X, .str _ _⟩

theorem Ev.low {p : Program} {loose : List Str} {mean : ExcName → Option Value} {mg mb : Str → Option Value} (G : Gd w.params hB) (T : Top p loose mean mg mb hB) {np pos : Pos} {e : Expr} {c : List Int} {n : Nat} {Λ : Addr} {env0 : Env}
    (hx : env.kindOf "_law_low" = some .globalImplicit) (he : Ev prog w hB A env ρ e (.lst (intsD c))) (hz : c.length < 64) (hR : Room (n + 2) A) (hfr : A.frames = some [env0]) (hk0 : env0.scope.kind ≠ .module) (hf0 : env0.frame = some Λ) (hfe : env.frame = some Λ)
    (hse : starEach [e] env = [(false, eval e env)] := by rfl) (hsq : starEach (e :: []) env = (false, eval e env) :: starEach [] env := by rfl) : Ev prog w hB A env ρ (.Call (.Name "_law_low" np) [e] [] pos) (lowF c) := by
  unfold lowF
  by_cases hc : c = []
  · subst hc
    rw [if_pos rfl]
    exact Ev.caught (n := n) G (EvV.glob G (by with_unfolding_all rfl) hx) (by with_unfolding_all rfl) he hfr hf0 hfe (fun h1 h2 h3 h4 h5 h6 => call_low0 G T hR h1 h2 h3 hfr hk0 hf0 h4 h5 h6) hse
  · rw [if_neg hc]
    have hne : 0 < c.length := List.length_pos_iff.mpr hc
    exact Ev.call (EvV.glob G (by with_unfolding_all rfl) hx) (kept_K G (by with_unfolding_all rfl)) (EvL.cons he EvL.nil hsq) hR (fn_law_low1 G hz hne (sortI_get (by (first | lia | omega)))) hsq
theorem Ev.high {p : Program} {loose : List Str} {mean : ExcName → Option Value} {mg mb : Str → Option Value} (G : Gd w.params hB) (T : Top p loose mean mg mb hB) {np pos : Pos} {e : Expr} {c : List Int} {n : Nat} {Λ : Addr} {env0 : Env}
    (hx : env.kindOf "_law_high" = some .globalImplicit) (he : Ev prog w hB A env ρ e (.lst (intsD c))) (hz : c.length < 64) (hR : Room (n + 2) A) (hfr : A.frames = some [env0]) (hk0 : env0.scope.kind ≠ .module) (hf0 : env0.frame = some Λ) (hfe : env.frame = some Λ)
    (hse : starEach [e] env = [(false, eval e env)] := by rfl) (hsq : starEach (e :: []) env = (false, eval e env) :: starEach [] env := by rfl) : Ev prog w hB A env ρ (.Call (.Name "_law_high" np) [e] [] pos) (highF c) := by
  unfold highF
  by_cases hc : c = []
  · subst hc
    rw [if_pos rfl]
    exact Ev.caught (n := n) G (EvV.glob G (by with_unfolding_all rfl) hx) (by with_unfolding_all rfl) he hfr hf0 hfe (fun h1 h2 h3 h4 h5 h6 => call_high0 G T hR h1 h2 h3 hfr hk0 hf0 h4 h5 h6) hse
  · rw [if_neg hc]
    have hne : 0 < c.length := List.length_pos_iff.mpr hc
    exact Ev.call (EvV.glob G (by with_unfolding_all rfl) hx) (kept_K G (by with_unfolding_all rfl)) (EvL.cons he EvL.nil hsq) hR (fn_law_high1 G hz hne (sortI_get (by (first | lia | omega)))) hsq
end
end Mine
set_option maxHeartbeats 400000
namespace Mine
section
variable {prog : Program} {w : World} {hB : Heap} {A : Around} {env ce : Env} {ρ ρ₀ : Nm} {μ μ' : List (Str × Mu)} {scope outer : Scope}

theorem ScOk.nest (hce : CEnv outer ce) (h1 : scope.kind = .function) (h2 : (scope.names.map (·.1)).Nodup) (h3 : (scope.names.all fun p => !isFree p.2 || outer.names.any fun q => q.1 == p.1 && (q.2 == .cell || q.2 == .free)) = true) : ScOk scope ce := ⟨h1, h2, fun x hx => by
  have := List.all_eq_true.mp h3 _ hx
  simp only [isFree, Bool.not_true, Bool.false_or, List.any_eq_true, Bool.and_eq_true, Bool.or_eq_true, beq_iff_eq] at this
  obtain ⟨⟨y, k⟩, hm, hy, hk⟩ := this
  dsimp only at hy hk
  subst hy
  rcases hk with rfl | rfl
  · obtain ⟨c, hc, _⟩ := hce.own y hm; exact ⟨c, hc⟩
  · exact hce.free y hm⟩
theorem rho_addC {x : Str} {d : D} (hce : CEnv outer ce) (h1 : ρ.lookup x = some d) (h2 : scope.names.lookup x = some .free) (h3 : outer.names.lookup x = some .cell) (h : ∀ x d, ρ₀.lookup x = some d → ρ.lookup x = some d ∧ scope.names.lookup x = some .free ∧ ce.kindOf x ≠ some .local) :
    ∀ y d', ((x, d) :: ρ₀).lookup y = some d' → ρ.lookup y = some d' ∧ scope.names.lookup y = some .free ∧ ce.kindOf y ≠ some .local := rho_add h1 h2 (hce.kind x _ h3 (by decide)) (by decide) h
theorem rho_addF {x : Str} {d : D} (hce : CEnv outer ce) (h1 : ρ.lookup x = some d) (h2 : scope.names.lookup x = some .free) (h3 : outer.names.lookup x = some .free) (h : ∀ x d, ρ₀.lookup x = some d → ρ.lookup x = some d ∧ scope.names.lookup x = some .free ∧ ce.kindOf x ≠ some .local) :
    ∀ y d', ((x, d) :: ρ₀).lookup y = some d' → ρ.lookup y = some d' ∧ scope.names.lookup y = some .free ∧ ce.kindOf y ≠ some .local := by
  rcases hce.kindF x h3 with q | q
  · exact rho_add h1 h2 q (by decide) h
  · exact rho_add h1 h2 q (by decide) h

theorem Ev.compF {elt target iter : Expr} {ifs : List Expr} {rest : List Comprehension} {pos : Pos} {d : D} {ds rs : List D}
    (hi : Ev prog w hB A env ρ iter d) (hI : Itr prog w hB A d ds) (hS : ScOk scope env) (hρ : ∀ x d, ρ₀.lookup x = some d → ρ.lookup x = some d ∧ scope.names.lookup x = some .free ∧ env.kindOf x ≠ some .local)
    (hG : ∀ ce, CEnv scope ce → ce.frame = env.frame → Gath prog w hB A ce elt (⟨target, iter, ifs, 0⟩ :: rest) scope pos ρ₀ ds rs) (hs : ∀ x, foldedSetIterable iter env x = pure x := by intro _; rfl) :
    Ev prog w hB A env ρ (.ListComp elt (⟨target, iter, ifs, 0⟩ :: rest) scope pos) (.lst rs) := fun V s E st => by
  show wpAny _ A (comprehension (.ListComp elt (⟨target, iter, ifs, 0⟩ :: rest) scope pos) scope env _ (newList []) false (eval iter env)) _ _ s
  refine comp_core (use := none) st hi hI hS hρ hG (fun acc C V' s' x r hVC hsC hns _ => ?_) hs
  obtain ⟨m, hm⟩ := hns
  refine ⟨m, hm, fun h' hs' => ⟨V', ext_sameBut x hVC hsC ?_ hs', r⟩⟩
  obtain ⟨mL, o, _, _, ho, _⟩ := st.ns
  exact ⟨o, ho⟩

/-- a test that changes a handle -/
noncomputable def TstS (prog : Program) (w : World) (hB : Heap) (A : Around) (env : Env) (ρ : Nm) (μ μ' : List (Str × Mu)) (e : Expr) (b : Bool) : Prop :=
  ∀ F V s E, StM w.params hB env ρ μ F V s → wpAny (model prog w) A (isTrue e env (eval e env)) (fun c s' => c = b ∧ ∃ V', ExtS env F V s V' s' ∧ StM w.params hB env ρ μ' F V' s') E s
theorem TstS.cmp {l r : Expr} {op : CmpOp} {pos : Pos} {d₁ d₂ : D} {b : Bool} (hl : Ev prog w hB A env ρ l d₁) (hr : EvS prog w hB A env ρ μ μ' r d₂) (ho : Op2 prog w hB A (compareOp op) d₁ d₂ (.bool b))
    (hm : behindInMarks op r = false := by with_unfolding_all rfl) : TstS prog w hB A env ρ μ μ' (.Compare l [op] [r] pos) b := fun F V s E st => by
  refine wpAny_isTrue_Compare1 (wpAny_mono (hl V s E st.st) (fun v₁ s₁ ⟨V₁, x₁, r₁⟩ => wpAny_mono (hr F V₁ s₁ E (st.ext x₁)) (fun v₂ s₂ ⟨V₂, x₂, st₂, r₂⟩ => ?_) fun _ _ e => e) fun _ _ e => e) hm
  refine wpAny_mono (ho V₂ s₂ v₁ v₂ E st₂.st.base st₂.st.held (r₁.mono x₂.le) r₂) (fun v s' ⟨V', y, r'⟩ => ?_) fun _ _ e => e
  (first | refine RepAll.nilE ?_ r' | refine Rep.intE (fun _ => ?_) r' | refine Rep.strE (fun _ => ?_) r' | refine Rep.boolE ?_ r' | cases r')
  exact wpAny_truthy_bool ⟨rfl, V', (x₁.toS.trans (fun _ q => .inl q) x₂).trans (fun _ q => .inl q) (y.toExt env).toS, st₂.ext (y.toExt env)⟩
theorem TstS.or2 {e₁ e₂ : Expr} {pos : Pos} {b : Bool} (h₁ : TstS prog w hB A env ρ μ μ' e₁ false) (h₂ : Tst prog w hB A env ρ e₂ b) : TstS prog w hB A env ρ μ μ' (.BoolOp .Or [e₁, e₂] pos) b := fun F V s E st => by
  show wpAny _ _ (allTrue .Or [e₁, e₂] env) _ _ _
  refine wpAny_allTrue_Or_cons (wpAny_mono (h₁ F V s E st) (fun c s' ⟨hc, V', y, st'⟩ => ?_) fun _ _ e => e)
  subst hc
  simp only [Bool.false_eq_true, if_false]
  refine wpAny_allTrue_Or_cons (wpAny_mono (h₂ V' s' E st'.st) (fun c s'' ⟨hc, V'', z⟩ => ?_) fun _ _ e => e)
  subst hc
  cases c
  · simp only [Bool.false_eq_true, if_false]; exact wpAny_allTrue_Or_nil ⟨by first | rfl | trivial, V'', y.trans (fun _ q => .inl q) z.toS, st'.ext z⟩
  · simp only [if_true]; exact ⟨by first | rfl | trivial, V'', y.trans (fun _ q => .inl q) z.toS, st'.ext z⟩
theorem Ex1.ifFS {test : Expr} {body orelse : List Stmt} {pos : Pos} {o : Out} (h : TstS prog w hB A env ρ μ μ' test false) (hb : Ex prog w hB A env ρ μ' orelse o) : Ex1 prog w hB A env ρ μ (.If test body orelse pos) o := fun F V s E st => by
  refine wpAny_If (wpAny_mono (h F V s E st) (fun c s' ⟨hc, V', y, st'⟩ => ?_) fun _ _ e => e)
  subst hc
  simp only [Bool.false_eq_true, if_false]
  exact wpAny_mono (hb F V' s' E st') (fun f s'' z => spost_trans y (fun _ h => .inl h) z) fun _ _ e => e
end
/-- the law's own body and block -/
noncomputable def lastBody : List Stmt → List Stmt
  | [] => []
  | [.FunctionDef _ _ body _ _ _ _ _ _ _] => body
  | _ :: r => lastBody r
noncomputable def lastScope : List Stmt → Scope
  | [] => default
  | [.FunctionDef _ _ _ _ _ _ scope _ _ _] => scope
  | _ :: r => lastScope r
noncomputable def lawBody : List Stmt := lastBody PySem.Challenge.pw_rs0038_01.main.body
noncomputable def lawScope : Scope := lastScope PySem.Challenge.pw_rs0038_01.main.body
theorem law_names : lawScope.names.lookup ("log" : Str) = some .cell := by rfl
end Mine
set_option maxHeartbeats 400000
namespace Mine
/-- the keys -/
noncomputable def keysD (t : List (Str × Int)) : List Str := t.map (·.1)
noncomputable def valD (t : List (Str × Int)) (k : Str) : Int := (dget t k).getD 0

theorem dget_cons (x : Str) (j : Int) (r : List (Str × Int)) (k : Str) : dget ((x, j) :: r) k = if x = k then some j else dget r k := by
  unfold dget
  rw [List.find?_cons]
  by_cases h : x = k <;> simp [h]
theorem dget_dput (k : Str) (i : Int) (k' : Str) : ∀ t : List (Str × Int), dget (dput t k i) k' = if k' = k then some i else dget t k'
  | [] => by
    show dget [(k, i)] k' = _
    rw [dget_cons]
    by_cases h : k' = k
    · simp [h]
    · rw [if_neg (fun q => h q.symm), if_neg h]
  | (x, j) :: r => by
    unfold dput
    by_cases h : x = k
    · rw [if_pos h, dget_cons, dget_cons, h]
      by_cases h' : k' = k
      · simp [h']
      · rw [if_neg (fun q => h' q.symm), if_neg h', if_neg (fun q => h' q.symm)]
    · rw [if_neg h, dget_cons, dget_cons, dget_dput k i k' r]
      by_cases h' : k' = k
      · rw [h', if_neg h, if_pos rfl, if_pos rfl]
      · rw [if_neg h', if_neg h']
theorem keysD_cons (p : Str × Int) (r : List (Str × Int)) : keysD (p :: r) = p.1 :: keysD r := rfl
theorem keys_dput (k : Str) (i : Int) : ∀ t : List (Str × Int), keysD (dput t k i) = if k ∈ keysD t then keysD t else keysD t ++ [k]
  | [] => by rw [if_neg (by simp [keysD])]; rfl
  | (x, j) :: r => by
    rw [keysD_cons]
    by_cases h : x = k
    · rw [if_pos (by rw [h]; exact .head _)]
      unfold dput
      rw [if_pos h, keysD_cons, h]
    · unfold dput
      rw [if_neg h, keysD_cons, keys_dput k i r]
      by_cases h' : k ∈ keysD r
      · rw [if_pos h', if_pos (.tail _ h')]
      · rw [if_neg h', if_neg (fun q => (List.mem_cons.mp q).elim (fun e => h e.symm) h')]; rfl
theorem mem_keys_dput {k k' : Str} {i : Int} {t : List (Str × Int)} : k' ∈ keysD (dput t k i) ↔ k' ∈ keysD t ∨ k' = k := by
  rw [keys_dput]
  split
  · rename_i h
    constructor
    · exact .inl
    · rintro (q | rfl)
      · exact q
      · exact h
  · simp
theorem nodup_dput {k : Str} {i : Int} {t : List (Str × Int)} (h : (keysD t).Nodup) : (keysD (dput t k i)).Nodup := by
  rw [keys_dput]
  split
  · exact h
  · rename_i hk
    rw [List.nodup_append]
    exact ⟨h, by simp, fun a ha b hb q => hk (by rw [List.mem_singleton.mp hb] at q; rw [← q]; exact ha)⟩
theorem dput_new {k : Str} {i : Int} : ∀ {t : List (Str × Int)}, k ∉ keysD t → dput t k i = t ++ [(k, i)]
  | [], _ => rfl
  | (x, j) :: r, h => by
    simp only [keysD, List.map_cons, List.mem_cons, not_or] at h
    unfold dput
    rw [if_neg (fun q => h.1 q.symm), dput_new h.2]; rfl
theorem dset_copy : ∀ {t acc : List (Str × Int)}, (keysD (acc ++ t)).Nodup → t.foldl dset acc = acc ++ t
  | [], acc, _ => by simp
  | (x, j) :: r, acc, h => by
    have hx : x ∉ keysD acc := fun q => by
      simp only [keysD, List.map_append, List.map_cons, List.nodup_append, List.mem_cons] at h
      exact h.2.2 x q x (.inl rfl) rfl
    have e : dset acc (x, j) = acc ++ [(x, j)] := dput_new hx
    rw [List.foldl_cons, e, dset_copy (by simpa using h)]
    simp
theorem addC_eq {t s : List (Str × Int)} (h : (keysD t).Nodup) : addC t s = s.foldl dadd t := by
  unfold addC
  rw [dset_copy (by simpa using h)]; rfl
theorem valD_dadd (t : List (Str × Int)) (p : Str × Int) (k : Str) : valD (dadd t p) k = valD t k + if p.1 = k then p.2 else 0 := by
  unfold valD dadd
  rw [dget_dput]
  by_cases h : k = p.1
  · rw [if_pos h, if_pos h.symm, h]; rfl
  · rw [if_neg h, if_neg (fun q => h q.symm)]; simp
theorem mem_keys_dadd {t : List (Str × Int)} {p : Str × Int} {k : Str} : k ∈ keysD (dadd t p) ↔ k ∈ keysD t ∨ k = p.1 := mem_keys_dput
theorem nodup_dadd {t : List (Str × Int)} {p : Str × Int} (h : (keysD t).Nodup) : (keysD (dadd t p)).Nodup := nodup_dput h
theorem nodup_foldadd : ∀ {s t : List (Str × Int)}, (keysD t).Nodup → (keysD (s.foldl dadd t)).Nodup
  | [], _, h => h
  | _ :: s, _, h => nodup_foldadd (s := s) (nodup_dadd h)
theorem mem_keys_foldadd {k : Str} : ∀ {s t : List (Str × Int)}, k ∈ keysD (s.foldl dadd t) ↔ k ∈ keysD t ∨ k ∈ keysD s
  | [], t => by simp [keysD]
  | p :: s, t => by
    rw [List.foldl_cons, mem_keys_foldadd, mem_keys_dadd]
    simp only [keysD, List.map_cons, List.mem_cons]
    exact or_assoc
/-- what is added under a key, in all -/
noncomputable def sumD (s : List (Str × Int)) (k : Str) : Int := (s.map fun p => if p.1 = k then p.2 else 0).sum
theorem valD_foldadd {k : Str} : ∀ {s t : List (Str × Int)}, valD (s.foldl dadd t) k = valD t k + sumD s k
  | [], t => by simp [sumD]
  | p :: s, t => by
    rw [List.foldl_cons, valD_foldadd, valD_dadd]
    simp only [sumD, List.map_cons, List.sum_cons]
    (first | lia | omega)
theorem valD_not {t : List (Str × Int)} {k : Str} (h : k ∉ keysD t) : valD t k = 0 := by
  induction t with
  | nil => rfl
  | cons p r ih =>
    obtain ⟨x, j⟩ := p
    simp only [keysD, List.map_cons, List.mem_cons, not_or] at h
    unfold valD at ih ⊢
    rw [dget_cons, if_neg (fun q => h.1 q.symm)]
    exact ih h.2
theorem sumD_nodup {t : List (Str × Int)} {k : Str} (h : (keysD t).Nodup) : sumD t k = valD t k := by
  induction t with
  | nil => rfl
  | cons p r ih =>
    obtain ⟨x, j⟩ := p
    simp only [keysD, List.map_cons, List.nodup_cons] at h
    have e := ih h.2
    unfold sumD at e ⊢
    rw [List.map_cons, List.sum_cons, e]
    unfold valD
    rw [dget_cons]
    by_cases q : x = k
    · rw [if_pos q, if_pos q]
      have : valD r k = 0 := valD_not (by rw [← q]; exact h.1)
      unfold valD at this
      rw [this]; simp
    · rw [if_neg q, if_neg q]; simp
theorem dget_mem {t : List (Str × Int)} {k : Str} (h : k ∈ keysD t) : dget t k = some (valD t k) := by
  induction t with
  | nil => simp [keysD] at h
  | cons p r ih =>
    obtain ⟨x, j⟩ := p
    unfold valD
    rw [dget_cons]
    by_cases q : x = k
    · rw [if_pos q]; rfl
    · rw [if_neg q]
      simp only [keysD, List.map_cons, List.mem_cons] at h
      exact ih (h.resolve_left fun e => q e.symm)
theorem keys_length (t : List (Str × Int)) : (keysD t).length = t.length := by simp [keysD]
end Mine
set_option maxHeartbeats 400000
namespace Mine
theorem letter_inj {c d : Int} (hc : 0 ≤ c) (hd : 0 ≤ d) (h : letter c = letter d) : c = d := by
  unfold letter at h
  have : 97 + c.toNat = 97 + d.toNat := by
    have := congrArg (fun s : Str => s.cps.toList) h
    simpa using this
  (first | lia | omega)
theorem sum_snoc (l : List Int) (a : Int) : (l ++ [a]).sum = l.sum + a := by
  induction l with
  | nil => simp
  | cons b l ih => rw [List.cons_append, List.sum_cons, List.sum_cons, ih]; (first | lia | omega)

/-- the rows of one function -/
noncomputable def rowsF (log : List Row) (f : Int) : List Row := log.filter fun r => r.1 == f
theorem bookF_t (log : List Row) (f : Int) : (bookF log f).t = ((rowsF log f).map fun r => (letter r.2.1, r.2.2)).foldl dadd [] := by
  rw [List.foldl_map]; rfl
theorem book_nodup (log : List Row) (f : Int) : (keysD (bookF log f).t).Nodup := by
  rw [bookF_t]; exact nodup_foldadd (by simp [keysD])
theorem rowsF_snoc (log : List Row) (r : Row) (f : Int) : rowsF (log ++ [r]) f = if r.1 = f then rowsF log f ++ [r] else rowsF log f := by
  unfold rowsF
  rw [List.filter_append]
  by_cases h : r.1 = f <;> simp [h]
theorem book_snoc (log : List Row) (r : Row) (f : Int) : bookF (log ++ [r]) f = if r.1 = f then (bookF log f).add (callE r) else bookF log f := by
  have hr := rowsF_snoc log r f
  unfold rowsF at hr
  by_cases h : r.1 = f
  · rw [if_pos h] at hr ⊢
    have hn := book_nodup log f
    unfold bookF
    rw [hr]
    unfold Ent.add callE
    have ht : addC (bookF log f).t [(letter r.2.1, r.2.2)] = dadd (bookF log f).t (letter r.2.1, r.2.2) := by rw [addC_eq hn]; rfl
    unfold bookF at ht
    dsimp only at ht ⊢
    rw [ht]
    congr 1
    · rw [List.length_append, List.length_singleton]; (first | lia | omega)
    · rw [List.map_append, List.map_singleton, sum_snoc]; (first | lia | omega)
    · rw [List.map_append, List.map_singleton, sum_snoc]; (first | lia | omega)
    · rw [List.map_append, List.map_singleton, sum_snoc]; (first | lia | omega)
    · rw [List.foldl_append]; rfl
  · rw [if_neg h] at hr ⊢
    unfold bookF
    rw [hr]
theorem snoc_ind {α : Type} {P : List α → Prop} (h0 : P []) (h1 : ∀ l a, P l → P (l ++ [a])) (l : List α) : P l := by
  have : ∀ l : List α, P l.reverse := by
    intro l
    induction l with
    | nil => exact h0
    | cons a l ih => rw [List.reverse_cons]; exact h1 _ _ ih
  have := this l.reverse
  rwa [List.reverse_reverse] at this
theorem entries_books (log : List Row) (hok : ∀ r ∈ log, RowOk r) : entriesF log = booksF log := by
  induction log using snoc_ind with
  | h0 => rfl
  | h1 log r ih =>
    have ih := ih fun q hq => hok q (List.mem_append_left _ hq)
    obtain ⟨r1, r2, _, _⟩ := hok r (by simp)
    have e : entriesF (log ++ [r]) = entStep (entriesF log) r := by unfold entriesF; rw [List.foldl_append]; rfl
    rw [e, ih]
    have hlt : r.1.toNat < 6 := by (first | lia | omega)
    have hget : (booksF log)[r.1.toNat]? = some (bookF log r.1) := by
      unfold booksF
      rw [List.getElem?_map, List.getElem?_range hlt]
      simp only [Option.map_some, Option.some.injEq]
      congr 1
      show (r.1.toNat : Int) = r.1
      (first | lia | omega)
    unfold entStep
    rw [hget]
    dsimp only
    apply List.ext_getElem?
    intro i
    rw [List.getElem?_set]
    by_cases hi : r.1.toNat = i
    · rw [if_pos hi]
      have hl : (booksF log).length = 6 := by simp [booksF]
      rw [if_pos (by (first | lia | omega))]
      unfold booksF
      rw [List.getElem?_map, List.getElem?_range (by (first | lia | omega))]
      simp only [Option.map_some, Option.some.injEq]
      rw [book_snoc, if_pos (by show r.1 = (i : Int); (first | lia | omega))]
      congr 1
      congr 1
      show r.1 = (i : Int); (first | lia | omega)
    · rw [if_neg hi]
      unfold booksF
      rw [List.getElem?_map, List.getElem?_map]
      by_cases h6 : i < 6
      · rw [List.getElem?_range h6]
        simp only [Option.map_some, Option.some.injEq]
        rw [book_snoc, if_neg (by show ¬ r.1 = (i : Int); (first | lia | omega))]
      · rw [List.getElem?_eq_none (by simpa using h6)]; rfl
theorem book_keys (log : List Row) (f : Int) (k : Str) : k ∈ keysD (bookF log f).t ↔ ∃ r ∈ log, r.1 = f ∧ letter r.2.1 = k := by
  rw [bookF_t, mem_keys_foldadd]
  simp only [keysD, List.map_nil, List.not_mem_nil, false_or, List.map_map, List.mem_map, rowsF, List.mem_filter, Function.comp_apply, beq_iff_eq]
  constructor
  · rintro ⟨r, ⟨h1, h2⟩, h3⟩; exact ⟨r, h1, h2, h3⟩
  · rintro ⟨r, h1, h2, h3⟩; exact ⟨r, ⟨h1, h2⟩, h3⟩
theorem book_val (log : List Row) (f : Int) (k : Str) : valD (bookF log f).t k = (log.map fun r => if r.1 = f ∧ letter r.2.1 = k then r.2.2 else 0).sum := by
  rw [bookF_t, valD_foldadd]
  have : valD [] k = 0 := rfl
  rw [this, Int.zero_add]
  unfold sumD rowsF
  rw [List.map_map]
  induction log with
  | nil => rfl
  | cons r log ih =>
    by_cases h : r.1 = f
    · rw [List.filter_cons_of_pos (by simpa using h), List.map_cons, List.sum_cons, List.map_cons, List.sum_cons, ih]
      simp [h]
    · rw [List.filter_cons_of_neg (by simpa using h), List.map_cons, List.sum_cons, ih]
      simp [h]

/-- all functions' tables, added up -/
noncomputable def madeL (log : List Row) : List (Str × Int) := madeF (bookF log 0) [bookF log 1, bookF log 2, bookF log 3, bookF log 4, bookF log 5]
theorem books_six (log : List Row) : booksF log = [bookF log 0, bookF log 1, bookF log 2, bookF log 3, bookF log 4, bookF log 5] := rfl
theorem made_fold : ∀ {rest : List Ent} {e₀ : Ent}, (keysD e₀.t).Nodup → (keysD (madeF e₀ rest)).Nodup ∧ (∀ k, k ∈ keysD (madeF e₀ rest) ↔ k ∈ keysD e₀.t ∨ ∃ e ∈ rest, k ∈ keysD e.t) ∧
    ((∀ e ∈ rest, (keysD e.t).Nodup) → ∀ k, valD (madeF e₀ rest) k = valD e₀.t k + (rest.map fun e => valD e.t k).sum)
  | [], e₀, h => by refine ⟨h, fun k => by simp [madeF], fun _ k => by simp [madeF]⟩
  | e :: rest, e₀, h => by
    have e1 : madeF e₀ (e :: rest) = madeF { e₀ with t := addC e₀.t e.t } rest := rfl
    have hn : (keysD (addC e₀.t e.t)).Nodup := by rw [addC_eq h]; exact nodup_foldadd h
    obtain ⟨a1, a2, a3⟩ := made_fold (rest := rest) (e₀ := { e₀ with t := addC e₀.t e.t }) hn
    rw [e1]
    refine ⟨a1, fun k => ?_, fun hr k => ?_⟩
    · rw [a2]
      show k ∈ keysD (addC e₀.t e.t) ∨ _ ↔ _
      rw [addC_eq h, mem_keys_foldadd]
      simp only [List.mem_cons, exists_eq_or_imp]
      exact or_assoc
    · rw [a3 fun e' he' => hr e' (.tail _ he')]
      show valD (addC e₀.t e.t) k + _ = _
      rw [addC_eq h, valD_foldadd, sumD_nodup (hr e (.head _)), List.map_cons, List.sum_cons]
      (first | lia | omega)
theorem made_nodup (log : List Row) : (keysD (madeL log)).Nodup := (made_fold (book_nodup log 0)).1
theorem made_keys (log : List Row) (hok : ∀ r ∈ log, RowOk r) (k : Str) : k ∈ keysD (madeL log) ↔ ∃ r ∈ log, letter r.2.1 = k := by
  unfold madeL
  rw [(made_fold (book_nodup log 0)).2.1]
  simp only [List.mem_cons, List.not_mem_nil, or_false, exists_eq_or_imp, exists_eq_left, book_keys]
  constructor
  · rintro (⟨r, h, _, e⟩ | ⟨r, h, _, e⟩ | ⟨r, h, _, e⟩ | ⟨r, h, _, e⟩ | ⟨r, h, _, e⟩ | ⟨r, h, _, e⟩) <;> exact ⟨r, h, e⟩
  · rintro ⟨r, h, e⟩
    obtain ⟨r1, r2, _, _⟩ := hok r h
    have : r.1 = 0 ∨ r.1 = 1 ∨ r.1 = 2 ∨ r.1 = 3 ∨ r.1 = 4 ∨ r.1 = 5 := by (first | lia | omega)
    rcases this with q | q | q | q | q | q
    · exact .inl ⟨r, h, q, e⟩
    · exact .inr (.inl ⟨r, h, q, e⟩)
    · exact .inr (.inr (.inl ⟨r, h, q, e⟩))
    · exact .inr (.inr (.inr (.inl ⟨r, h, q, e⟩)))
    · exact .inr (.inr (.inr (.inr (.inl ⟨r, h, q, e⟩))))
    · exact .inr (.inr (.inr (.inr (.inr ⟨r, h, q, e⟩))))
/-- how many calls a caller makes -/
noncomputable def callsOf (log : List Row) (c : Int) : Int := ((log.filter fun r => r.2.1 == c).map fun r => r.2.2).sum
theorem made_val (log : List Row) (hok : ∀ r ∈ log, RowOk r) {c : Int} (hc : 0 ≤ c) : valD (madeL log) (letter c) = callsOf log c := by
  unfold madeL
  rw [(made_fold (book_nodup log 0)).2.2 (fun e he => by
    simp only [List.mem_cons, List.not_mem_nil, or_false] at he
    rcases he with rfl | rfl | rfl | rfl | rfl <;> exact book_nodup _ _)]
  simp only [List.map_cons, List.map_nil, List.sum_cons, List.sum_nil, book_val]
  unfold callsOf
  induction log with
  | nil => rfl
  | cons r log ih =>
    have ih := ih fun q hq => hok q (.tail _ hq)
    obtain ⟨r1, r2, r3, r4⟩ := hok r (.head _)
    simp only [List.map_cons, List.sum_cons]
    have hl : letter r.2.1 = letter c ↔ r.2.1 = c := ⟨letter_inj r3 hc, fun q => by rw [q]⟩
    by_cases hq : r.2.1 = c
    · rw [List.filter_cons_of_pos (by simpa using hq), List.map_cons, List.sum_cons, ← ih]
      have hl' : letter r.2.1 = letter c := hl.mpr hq
      simp only [hl', and_true]
      have : r.1 = 0 ∨ r.1 = 1 ∨ r.1 = 2 ∨ r.1 = 3 ∨ r.1 = 4 ∨ r.1 = 5 := by (first | lia | omega)
      rcases this with q | q | q | q | q | q <;> simp [q] <;> (first | lia | omega)
    · rw [List.filter_cons_of_neg (by simpa using hq), ← ih]
      have hl' : ¬ letter r.2.1 = letter c := fun q => hq (hl.mp q)
      simp [hl']
end Mine
set_option maxHeartbeats 400000
namespace Mine
noncomputable def pr (r : Row) : Int × Int := (r.1, r.2.1)
theorem rowOf_ok (x : Int) : RowOk (rowOf x) ∧ 1 ≤ (rowOf x).2.2 := by
  unfold RowOk rowOf
  have h1 := Int.fmod_nonneg_of_pos x (b := 6) (by decide)
  have h2 := Int.fmod_lt_of_pos x (b := 6) (by decide)
  have h3 := Int.fmod_nonneg_of_pos (x.fdiv 6) (b := 5) (by decide)
  have h4 := Int.fmod_lt_of_pos (x.fdiv 6) (b := 5) (by decide)
  have h5 := Int.fmod_nonneg_of_pos (x.fdiv 30) (b := 4) (by decide)
  refine ⟨⟨h1, h2, h3, h4⟩, ?_⟩
  show 1 ≤ 1 + (x.fdiv 30).fmod 4
  (first | lia | omega)
theorem log1_eq (script : List Int) : log1 script = base ++ (script.take 6).map rowOf := by
  unfold log1
  have : ∀ (l : List Int) (acc : List Row), l.foldl (fun acc x => acc ++ [rowOf x]) acc = acc ++ l.map rowOf := by
    intro l
    induction l with
    | nil => intro acc; simp
    | cons a l ih => intro acc; rw [List.foldl_cons, ih]; simp
  exact this _ _
theorem base_ok : ∀ r ∈ base, RowOk r ∧ 1 ≤ r.2.2 := by
  intro r hr
  simp only [base, List.mem_cons, List.not_mem_nil, or_false] at hr
  unfold RowOk
  rcases hr with rfl | rfl | rfl | rfl | rfl | rfl | rfl | rfl | rfl | rfl <;> decide
theorem bump_ok {rows : List Row} {p : Nat × Int} (h : ∀ r ∈ rows, RowOk r ∧ 1 ≤ r.2.2) : ∀ r ∈ bump rows p, RowOk r ∧ 1 ≤ r.2.2 := by
  intro r hr
  unfold bump at hr
  split at hr
  · rename_i r₀ hr₀
    rcases List.mem_or_eq_of_mem_set hr with q | q
    · exact h r q
    · have := h r₀ (List.mem_of_getElem? hr₀)
      have h5 := Int.fmod_nonneg_of_pos p.2 (b := 4) (by decide)
      subst q
      refine ⟨this.1, ?_⟩
      show 1 ≤ r₀.2.2 + p.2.fmod 4
      (first | lia | omega)
  · exact h r hr
theorem bump_pr (rows : List Row) (p : Nat × Int) : (bump rows p).map pr = rows.map pr := by
  unfold bump
  split
  · rename_i r₀ hr₀
    apply List.ext_getElem?
    intro i
    rw [List.getElem?_map, List.getElem?_map, List.getElem?_set]
    split
    · rename_i hi
      subst hi
      have := (List.getElem?_eq_some_iff.mp hr₀).1
      rw [if_pos this, hr₀]; rfl
    · rfl
  · rfl
theorem log_facts (script : List Int) : (∀ r ∈ logF script, RowOk r ∧ 1 ≤ r.2.2) ∧ (∀ q ∈ base.map pr, q ∈ (logF script).map pr) ∧ (logF script).length ≤ 16 := by
  have h0 : (∀ r ∈ log1 script, RowOk r ∧ 1 ≤ r.2.2) ∧ (∀ q ∈ base.map pr, q ∈ (log1 script).map pr) ∧ (log1 script).length ≤ 16 := by
    rw [log1_eq]
    refine ⟨fun r hr => ?_, fun q hq => by rw [List.map_append]; exact List.mem_append_left _ hq, ?_⟩
    · rcases List.mem_append.mp hr with h | h
      · exact base_ok r h
      · obtain ⟨x, _, rfl⟩ := List.mem_map.mp h; exact rowOf_ok x
    · rw [List.length_append, List.length_map, List.length_take]
      have : base.length = 10 := rfl
      (first | lia | omega)
  unfold logF
  generalize (List.range ((script.drop 6).take 54).length).zip ((script.drop 6).take 54) = ps
  revert h0
  generalize log1 script = rows
  intro h0
  induction ps generalizing rows with
  | nil => exact h0
  | cons p ps ih =>
    rw [List.foldl_cons]
    obtain ⟨h1, h2, h3⟩ := h0
    exact ih _ ⟨bump_ok h1, by rw [bump_pr]; exact h2, by rw [bump_length]; exact h3⟩

section
variable {log : List Row}
/-- what the law's log is -/
structure LogOk (log : List Row) : Prop where
  ok : ∀ r ∈ log, RowOk r
  pos : ∀ r ∈ log, 1 ≤ r.2.2
  all : ∀ q ∈ base.map pr, q ∈ log.map pr
  len : log.length ≤ 16
theorem logOk (script : List Int) : LogOk (logF script) := let h := log_facts script; ⟨fun r hr => (h.1 r hr).1, fun r hr => (h.1 r hr).2, h.2.1, h.2.2⟩

theorem sum_pos : ∀ {l : List Int}, (∀ a ∈ l, 1 ≤ a) → l ≠ [] → 1 ≤ l.sum
  | [a], h, _ => by simpa using h a (.head _)
  | a :: b :: l, h, _ => by
    have h1 := h a (.head _)
    have h2 := sum_pos (l := b :: l) (fun c hc => h c (.tail _ hc)) (by simp)
    rw [List.sum_cons]; (first | lia | omega)
theorem calls_pos (L : LogOk log) (c : Int) : (callsOf log c ≠ 0 ↔ ∃ r ∈ log, r.2.1 = c) ∧ 0 ≤ callsOf log c := by
  have hall : ∀ a ∈ (log.filter fun r => r.2.1 == c).map fun r => r.2.2, 1 ≤ a := fun a ha => by
    obtain ⟨r, hr, rfl⟩ := List.mem_map.mp ha
    exact L.pos r (List.mem_filter.mp hr).1
  by_cases h : ∃ r ∈ log, r.2.1 = c
  · obtain ⟨r, hr, e⟩ := h
    have hne : ((log.filter fun r => r.2.1 == c).map fun r => r.2.2) ≠ [] := fun q => by
      rw [List.map_eq_nil_iff, List.filter_eq_nil_iff] at q
      exact q r hr (by simpa using e)
    have := sum_pos hall hne
    exact ⟨⟨fun _ => ⟨r, hr, e⟩, fun _ q => by unfold callsOf at q; (first | lia | omega)⟩, by unfold callsOf; (first | lia | omega)⟩
  · have he : (log.filter fun r => r.2.1 == c) = [] := by
      rw [List.filter_eq_nil_iff]
      intro r hr q
      exact h ⟨r, hr, by simpa using q⟩
    have : callsOf log c = 0 := by unfold callsOf; rw [he]; rfl
    exact ⟨⟨fun q => absurd this q, fun q => absurd q h⟩, by (first | lia | omega)⟩

/-- the callers that make any call -/
noncomputable def presI (log : List Row) : List Int := ([0, 1, 2, 3, 4] : List Int).filter fun c => callsOf log c != 0
theorem calls_base (L : LogOk log) {c : Int} (hc : c = 0 ∨ c = 1 ∨ c = 2 ∨ c = 3) : callsOf log c ≠ 0 := by
  refine (calls_pos L c).1.mpr ?_
  have key : ∀ q ∈ base.map pr, ∃ r ∈ log, r.2.1 = q.2 := fun q hq => by
    obtain ⟨r, hr, e⟩ := List.mem_map.mp (L.all q hq)
    exact ⟨r, hr, by rw [← e]; rfl⟩
  rcases hc with rfl | rfl | rfl | rfl
  · exact key (4, 0) (by decide)
  · exact key (1, 1) (by decide)
  · exact key (0, 2) (by decide)
  · exact key (4, 3) (by decide)
theorem presI_cases (L : LogOk log) : presI log = [0, 1, 2, 3] ∨ presI log = [0, 1, 2, 3, 4] := by
  have h0 := calls_base L (c := 0) (by simp)
  have h1 := calls_base L (c := 1) (by simp)
  have h2 := calls_base L (c := 2) (by simp)
  have h3 := calls_base L (c := 3) (by simp)
  unfold presI
  by_cases h4 : callsOf log 4 = 0
  · left; simp [h0, h1, h2, h3, h4]
  · right; simp [h0, h1, h2, h3, h4]
theorem presI_mem (L : LogOk log) {c : Int} : c ∈ presI log ↔ ∃ r ∈ log, r.2.1 = c := by
  unfold presI
  rw [List.mem_filter]
  constructor
  · rintro ⟨_, h⟩; exact (calls_pos L c).1.mp (by simpa using h)
  · rintro ⟨r, hr, e⟩
    obtain ⟨_, _, r3, r4⟩ := L.ok r hr
    refine ⟨?_, by simpa using (calls_pos L c).1.mpr ⟨r, hr, e⟩⟩
    have : c = 0 ∨ c = 1 ∨ c = 2 ∨ c = 3 ∨ c = 4 := by (first | lia | omega)
    simpa using this
theorem presI_range (L : LogOk log) {c : Int} (h : c ∈ presI log) : 0 ≤ c ∧ c < 5 := by
  obtain ⟨r, hr, e⟩ := (presI_mem L).mp h
  obtain ⟨_, _, r3, r4⟩ := L.ok r hr
  (first | lia | omega)
theorem presI_nodup (log : List Row) : (presI log).Nodup := List.Nodup.sublist List.filter_sublist (by decide)
theorem map_letter_nodup {l : List Int} (hn : l.Nodup) (h : ∀ c ∈ l, 0 ≤ c) : (l.map letter).Nodup := by
  induction l with
  | nil => simp
  | cons a l ih =>
    rw [List.nodup_cons] at hn
    rw [List.map_cons, List.nodup_cons]
    refine ⟨fun q => ?_, ih hn.2 fun c hc => h c (.tail _ hc)⟩
    obtain ⟨b, hb, e⟩ := List.mem_map.mp q
    exact hn.1 (letter_inj (h b (.tail _ hb)) (h a (.head _)) e ▸ hb)
theorem made_keys_perm (L : LogOk log) : (keysD (madeL log)).Perm ((presI log).map letter) := by
  refine (List.perm_ext_iff_of_nodup (made_nodup log) (map_letter_nodup (presI_nodup log) fun c hc => (presI_range L hc).1)).mpr fun k => ?_
  rw [made_keys log L.ok]
  constructor
  · rintro ⟨r, hr, e⟩; exact List.mem_map.mpr ⟨r.2.1, (presI_mem L).mpr ⟨r, hr, rfl⟩, e⟩
  · intro h
    obtain ⟨c, hc, e⟩ := List.mem_map.mp h
    obtain ⟨r, hr, e'⟩ := (presI_mem L).mp hc
    exact ⟨r, hr, by rw [e']; exact e⟩
theorem made_length (L : LogOk log) : (madeL log).length = (presI log).length := by
  have := (made_keys_perm L).length_eq
  rwa [keys_length, List.length_map] at this

noncomputable def callsF (log : List Row) : List Int := [callsOf log 0, callsOf log 1, callsOf log 2, callsOf log 3, callsOf log 4]
theorem made_count (L : LogOk log) : ((madeL log).length : Int) = 5 - ((callsF log).count 0 : Nat) := by
  rw [made_length L]
  have h0 := calls_base L (c := 0) (by simp)
  have h1 := calls_base L (c := 1) (by simp)
  have h2 := calls_base L (c := 2) (by simp)
  have h3 := calls_base L (c := 3) (by simp)
  unfold callsF presI
  by_cases h4 : callsOf log 4 = 0
  · simp [h0, h1, h2, h3, h4]
  · simp [h0, h1, h2, h3, h4]

/-- a letter's number -/
noncomputable def decL (s : Str) : Int := ((s.cps.toList.getD 0 0 : Nat) : Int) - 97
theorem decL_letter {c : Int} (h : 0 ≤ c) : decL (letter c) = c := by
  unfold decL letter
  show ((97 + c.toNat : Nat) : Int) - 97 = c
  (first | lia | omega)
theorem rising_letters : ∀ {l : List Int} {p : Int}, 0 ≤ p → (∀ c ∈ l, 0 ≤ c) → risingS (letter p) (l.map letter) = true → (p :: l).Pairwise (· ≤ ·)
  | [], p, _, _, _ => by simp
  | x :: l, p, hp, hl, h => by
    have hx := hl x (.head _)
    rw [List.map_cons] at h
    unfold risingS at h
    rw [Bool.and_eq_true] at h
    have ih := rising_letters hx (fun c hc => hl c (.tail _ hc)) h.2
    have hpx : p ≤ x := by
      have := h.1
      unfold letter at this
      simp [PySem.Spec.ltCps] at this
      (first | lia | omega)
    rw [List.pairwise_cons]
    refine ⟨fun c hc => ?_, ih⟩
    rcases List.mem_cons.mp hc with rfl | hc
    · exact hpx
    · exact Int.le_trans hpx ((List.pairwise_cons.mp ih).1 c hc)
theorem sorted_letters {l : List Int} (hl : ∀ c ∈ l, 0 ≤ c) (h : sortedS (l.map letter) = true) : l.Pairwise (· ≤ ·) := by
  cases l with
  | nil => simp
  | cons p l => exact rising_letters (hl p (.head _)) (fun c hc => hl c (.tail _ hc)) h
theorem presI_sorted (L : LogOk log) : (presI log).Pairwise (· ≤ ·) := by
  rcases presI_cases L with h | h <;> rw [h] <;> decide
theorem names_unique (L : LogOk log) (ss' : List Str) (hp : ss'.Perm ((madeL log).map (·.1))) (hs : sortedS ss' = true) : ss' = (presI log).map letter := by
  have hp' : ss'.Perm ((presI log).map letter) := hp.trans (made_keys_perm L)
  have hall : ∀ s ∈ ss', ∃ c, c ∈ presI log ∧ letter c = s := fun s h => List.mem_map.mp (hp'.mem_iff.mp h)
  have hl : ss' = (ss'.map decL).map letter := by
    rw [List.map_map]
    conv => lhs; rw [← List.map_id ss']
    refine List.map_congr_left fun s h => ?_
    obtain ⟨c, hc, e⟩ := hall s h
    show s = letter (decL s)
    rw [← e, decL_letter (presI_range L hc).1]
  have hperm : (ss'.map decL).Perm (presI log) := by
    have := hp'.map decL
    rw [List.map_map] at this
    have e : (presI log).map (decL ∘ letter) = presI log := by
      conv => rhs; rw [← List.map_id (presI log)]
      exact List.map_congr_left fun c hc => decL_letter (presI_range L hc).1
    rwa [e] at this
  have hpos : ∀ c ∈ ss'.map decL, 0 ≤ c := fun c hc => (presI_range L (hperm.mem_iff.mp hc)).1
  rw [hl] at hs
  have := List.Perm.eq_of_pairwise (fun _ _ _ _ a b => Int.le_antisymm a b) (sorted_letters hpos hs) (presI_sorted L) hperm
  rw [hl, this]
end
end Mine
set_option maxHeartbeats 400000
namespace Mine
noncomputable def lexI : List Int → List Int → Bool
  | a :: l, b :: r => if a = b then lexI l r else decide (a < b)
  | _, _ => false
theorem lexI_asy : ∀ {l r : List Int}, lexI l r = true → lexI r l = false
  | a :: l, b :: r, h => by
    unfold lexI at h ⊢
    by_cases e : a = b
    · rw [if_pos e] at h; rw [if_pos e.symm]; exact lexI_asy h
    · rw [if_neg e] at h; rw [if_neg (fun q => e q.symm)]
      have := of_decide_eq_true h
      exact decide_eq_false (by (first | lia | omega))
  | [], _, h => by simp [lexI] at h
  | _ :: _, [], h => by simp [lexI] at h
theorem lexI_tr : ∀ {l r q : List Int}, lexI l r = true → lexI r q = true → lexI l q = true
  | a :: l, b :: r, c :: q, h, h' => by
    unfold lexI at h h' ⊢
    by_cases e : a = b
    · rw [if_pos e] at h
      by_cases e' : b = c
      · rw [if_pos e'] at h'; rw [if_pos (e.trans e')]; exact lexI_tr h h'
      · rw [if_neg e'] at h'; rw [if_neg (by rw [e]; exact e'), e]; exact h'
    · rw [if_neg e] at h
      have h1 := of_decide_eq_true h
      by_cases e' : b = c
      · rw [if_neg (by rw [← e']; exact e), ← e']; exact h
      · rw [if_neg e'] at h'
        have h2 := of_decide_eq_true h'
        rw [if_neg (by (first | lia | omega))]; exact decide_eq_true (by (first | lia | omega))
  | [], _, _, h, _ => by simp [lexI] at h
  | _ :: _, [], _, h, _ => by simp [lexI] at h
  | _ :: _, _ :: _, [], _, h => by simp [lexI] at h
theorem lexI_tri : ∀ {l r : List Int}, l.length = r.length → l ≠ r → lexI l r = true ∨ lexI r l = true
  | a :: l, b :: r, h, hn => by
    unfold lexI
    by_cases e : a = b
    · rw [if_pos e, if_pos e.symm]
      exact lexI_tri (by simpa using h) fun q => hn (by rw [e, q])
    · rw [if_neg e, if_neg (fun q => e q.symm)]
      rcases Int.lt_or_gt_of_ne e with q | q
      · exact .inl (decide_eq_true q)
      · exact .inr (decide_eq_true q)
  | [], [], _, hn => absurd rfl hn
  | [], _ :: _, h, _ => by simp at h
  | _ :: _, [], h, _ => by simp at h

structure Tot {β : Type} (rows : List β) (lt : β → β → Bool) : Prop where
  asy : ∀ a ∈ rows, ∀ b ∈ rows, lt a b = true → lt b a = false
  tr : ∀ a ∈ rows, ∀ b ∈ rows, ∀ c ∈ rows, lt a b = true → lt b c = true → lt a c = true
  tri : ∀ a ∈ rows, ∀ b ∈ rows, a ≠ b → lt a b = true ∨ lt b a = true
theorem Tot.of_key {β : Type} {rows : List β} {lt : β → β → Bool} {m : Nat} (K : β → List Int) (hl : ∀ a ∈ rows, (K a).length = m) (hi : ∀ a ∈ rows, ∀ b ∈ rows, K a = K b → a = b) (hk : ∀ a ∈ rows, ∀ b ∈ rows, lt a b = lexI (K a) (K b)) : Tot rows lt where
  asy := fun a ha b hb h => by rw [hk b hb a ha]; rw [hk a ha b hb] at h; exact lexI_asy h
  tr := fun a ha b hb c hc h h' => by rw [hk a ha c hc]; rw [hk a ha b hb] at h; rw [hk b hb c hc] at h'; exact lexI_tr h h'
  tri := fun a ha b hb hn => by
    rw [hk a ha b hb, hk b hb a ha]
    exact lexI_tri (by rw [hl a ha, hl b hb]) fun q => hn (hi a ha b hb q)

theorem ins_sorted {β : Type} {lt : β → β → Bool} {rows : List β} (T : Tot rows lt) {row : β} (hrow : row ∈ rows) : ∀ {acc : List β}, (∀ a ∈ acc, a ∈ rows ∧ a ≠ row) → acc.Pairwise (fun a b => lt a b = true) →
    (acc.take (acc.countP fun a => lt a row) ++ [row] ++ acc.drop (acc.countP fun a => lt a row)).Pairwise (fun a b => lt a b = true)
  | [], _, _ => by simp
  | a :: t, hm, hp => by
    rw [List.pairwise_cons] at hp
    obtain ⟨ha, hne⟩ := hm a (.head _)
    have hm' : ∀ b ∈ t, b ∈ rows ∧ b ≠ row := fun b hb => hm b (.tail _ hb)
    cases h : lt a row with
    | true =>
      have ih := ins_sorted T hrow hm' hp.2
      rw [show (a :: t).countP (fun a => lt a row) = t.countP (fun a => lt a row) + 1 from List.countP_cons_of_pos (p := fun a => lt a row) h, List.take_succ_cons, List.drop_succ_cons]
      generalize t.countP (fun a => lt a row) = k at ih ⊢
      rw [List.cons_append, List.cons_append, List.pairwise_cons]
      refine ⟨fun b hb => ?_, ih⟩
      simp only [List.mem_append, List.mem_singleton] at hb
      rcases hb with (hb | rfl) | hb
      · exact hp.1 b (List.mem_of_mem_take hb)
      · exact h
      · exact hp.1 b (List.mem_of_mem_drop hb)
    | false =>
      have hra : lt row a = true := (T.tri a ha row hrow hne).resolve_left (by rw [h]; decide)
      have hz : (a :: t).countP (fun a => lt a row) = 0 := by
        rw [List.countP_eq_zero]
        intro b hb
        rcases List.mem_cons.mp hb with rfl | hb
        · rw [h]; decide
        · have := T.asy row hrow b (hm' b hb).1 (T.tr row hrow a ha b (hm' b hb).1 hra (hp.1 b hb))
          rw [this]; decide
      rw [hz]
      simp only [List.take_zero, List.drop_zero, List.nil_append, List.singleton_append]
      rw [List.pairwise_cons, List.pairwise_cons]
      refine ⟨fun b hb => ?_, hp.1, hp.2⟩
      rcases List.mem_cons.mp hb with rfl | hb
      · exact hra
      · exact T.tr row hrow a ha b (hm' b hb).1 hra (hp.1 b hb)

theorem laid_sorted {sel : List (Int × Int)} {lt : List Sc → List Sc → Bool} {all : List (List Sc)} (T : Tot all lt) (hc : ∀ a ∈ all, ∀ b ∈ all, (cmpF a b sel = -1 ↔ lt a b = true)) :
    ∀ {rows acc : List (List Sc)}, (acc ++ rows).Nodup → (∀ a ∈ acc ++ rows, a ∈ all) → acc.Pairwise (fun a b => lt a b = true) →
      (rows.foldl (laidStep sel) acc).Perm (acc ++ rows) ∧ (rows.foldl (laidStep sel) acc).Pairwise (fun a b => lt a b = true)
  | [], acc, _, _, hp => by simpa using hp
  | row :: rows, acc, hn, hm, hp => by
    have hcount : (acc.map fun one => cmpF one row sel).count (-1) = acc.countP fun a => lt a row := by
      rw [List.count_eq_countP, List.countP_map]
      refine List.countP_congr fun a ha => ?_
      show (cmpF a row sel == -1) = true ↔ _
      rw [beq_iff_eq]
      exact hc a (hm a (List.mem_append_left _ ha)) row (hm row (by simp))
    have hstep : laidStep sel acc row = acc.take (acc.countP fun a => lt a row) ++ [row] ++ acc.drop (acc.countP fun a => lt a row) := by unfold laidStep; rw [hcount]
    have hne : ∀ a ∈ acc, a ∈ all ∧ a ≠ row := fun a ha => ⟨hm a (List.mem_append_left _ ha), fun q => by
      rw [List.nodup_append] at hn
      exact hn.2.2 a ha row (.head _) q⟩
    have hs := ins_sorted T (hm row (by simp)) hne hp
    have hperm : (laidStep sel acc row).Perm (acc ++ [row]) := by
      rw [hstep]
      generalize acc.countP (fun a => lt a row) = k
      have h1 : (acc.take k ++ [row] ++ acc.drop k).Perm (acc.take k ++ acc.drop k ++ [row]) := by
        rw [List.append_assoc, List.append_assoc]
        exact List.Perm.append_left _ List.perm_append_comm
      rwa [List.take_append_drop] at h1
    have hperm2 : (laidStep sel acc row ++ rows).Perm (acc ++ row :: rows) := by
      have := hperm.append_right rows
      simpa using this
    rw [← hstep] at hs
    obtain ⟨p1, p2⟩ := laid_sorted (rows := rows) (acc := laidStep sel acc row) T hc (hperm2.symm.nodup hn) (fun a ha => hm a (hperm2.mem_iff.mp ha)) hs
    exact ⟨p1.trans hperm2, p2⟩
theorem laidF_sorted {sel : List (Int × Int)} {lt : List Sc → List Sc → Bool} {rows : List (List Sc)} (T : Tot rows lt) (hc : ∀ a ∈ rows, ∀ b ∈ rows, (cmpF a b sel = -1 ↔ lt a b = true)) (hn : rows.Nodup) :
    (laidF sel rows).Perm rows ∧ (laidF sel rows).Pairwise (fun a b => lt a b = true) :=
  laid_sorted (rows := rows) (acc := []) T hc (by simpa using hn) (fun a ha => by simpa using ha) .nil

/-- the rank list of a sorted list -/
noncomputable def rankL (S rows : List (List Sc)) : List Nat := rows.map fun x => S.idxOf x
theorem idxOf_get {S : List (List Sc)} {x : List Sc} (h : x ∈ S) : S[S.idxOf x]? = some x := by
  have hl := List.idxOf_lt_length_of_mem h
  rw [List.getElem?_eq_getElem hl, List.getElem_idxOf hl]
theorem idxOf_inj {S : List (List Sc)} {x y : List Sc} (hx : x ∈ S) (hy : y ∈ S) (h : S.idxOf x = S.idxOf y) : x = y := by
  have h1 := idxOf_get hx
  have h2 := idxOf_get hy
  rw [h, h2] at h1
  exact (Option.some.inj h1).symm
theorem sort_eq {rows S : List (List Sc)} {lt : List Sc → List Sc → Bool} {n : Nat} (hn : rows.length = n) (hnd : rows.Nodup) (hp : S.Perm rows) (hs : S.Pairwise fun a b => lt a b = true) (T : Tot rows lt) (hg : (listsK n n).all (goodK n) = true) :
    (∀ i j, i < rows.length → j < rows.length → lt (rows.getD i []) (rows.getD j []) = ltR (rankL S rows) i j) ∧ asksK (ltR (rankL S rows)) rows.length (kas_sort rows.length) = true ∧
    (∀ i ∈ (runK (ltR (rankL S rows)) (kas_sort rows.length)).toList, i < rows.length) ∧ (runK (ltR (rankL S rows)) (kas_sort rows.length)).toList.length ≤ n ∧
    ((runK (ltR (rankL S rows)) (kas_sort rows.length)).toList.map fun i => rows.getD i []) = S := by
  have hm : ∀ x, x ∈ rows → x ∈ S := fun x hx => hp.mem_iff.mpr hx
  have hrn : (rankL S rows).Nodup := by
    unfold rankL
    rw [List.nodup_iff_pairwise_ne, List.pairwise_map]
    exact (List.nodup_iff_pairwise_ne.mp hnd).imp_of_mem fun ha hb hne q => hne (idxOf_inj (hm _ ha) (hm _ hb) q)
  have hrl : (rankL S rows).length = n := by unfold rankL; rw [List.length_map, hn]
  have hrb : ∀ a ∈ rankL S rows, a < n := fun a ha => by
    obtain ⟨x, hx, rfl⟩ := List.mem_map.mp ha
    have := List.idxOf_lt_length_of_mem (hm x hx)
    rwa [hp.length_eq, hn] at this
  have hmem : rankL S rows ∈ listsK n n := by
    have := mem_listsK hrn hrb
    rwa [hrl] at this
  have hgood := List.all_eq_true.mp hg _ hmem
  unfold goodK at hgood
  simp only [Bool.and_eq_true, beq_iff_eq] at hgood
  obtain ⟨⟨g1, g2⟩, g3⟩ := hgood
  have g3' : ∀ i ∈ (runK (ltR (rankL S rows)) (kas_sort n)).toList, i < n := fun i hi => of_decide_eq_true (List.all_eq_true.mp g3 i hi)
  have hget : ∀ i, i < n → rows.getD i [] ∈ rows ∧ (rankL S rows).getD i 0 = S.idxOf (rows.getD i []) := fun i hi => by
    have hi' : i < rows.length := by (first | lia | omega)
    refine ⟨by simp [List.getD, hi'], ?_⟩
    unfold rankL
    simp [List.getD, hi']
  subst hn
  refine ⟨fun i j hi hj => ?_, g1, g3', ?_, ?_⟩
  · obtain ⟨m1, e1⟩ := hget i hi
    obtain ⟨m2, e2⟩ := hget j hj
    unfold ltR
    rw [e1, e2]
    have i1 := idxOf_get (hm _ m1)
    have i2 := idxOf_get (hm _ m2)
    have l1 := List.idxOf_lt_length_of_mem (hm _ m1)
    have l2 := List.idxOf_lt_length_of_mem (hm _ m2)
    have pw := List.pairwise_iff_getElem.mp hs
    rcases Nat.lt_trichotomy (S.idxOf (rows.getD i [])) (S.idxOf (rows.getD j [])) with q | q | q
    · rw [decide_eq_true q]
      have := pw _ _ l1 l2 q
      rwa [List.getElem_idxOf l1, List.getElem_idxOf l2] at this
    · rw [decide_eq_false (by (first | lia | omega))]
      have := idxOf_inj (hm _ m1) (hm _ m2) q
      rw [this]
      cases h : lt (rows.getD j []) (rows.getD j []) with
      | false => rfl
      | true => have := T.asy _ m2 _ m2 h; rw [h] at this; cases this
    · rw [decide_eq_false (by (first | lia | omega))]
      have := pw _ _ l2 l1 q
      rw [List.getElem_idxOf l1, List.getElem_idxOf l2] at this
      exact T.asy _ m2 _ m1 this
  · have := congrArg List.length g2
    rw [List.length_map, List.length_range] at this
    (first | lia | omega)
  · have hlen : (runK (ltR (rankL S rows)) (kas_sort rows.length)).toList.length = S.length := by
      have := congrArg List.length g2
      rw [List.length_map, List.length_range] at this
      rw [this, hp.length_eq]
    refine List.ext_getElem (by rw [List.length_map]; exact hlen) fun k h1 h2 => ?_
    rw [List.getElem_map]
    rw [List.length_map] at h1
    have hk : (runK (ltR (rankL S rows)) (kas_sort rows.length)).toList[k] < rows.length := g3' _ (List.getElem_mem h1)
    have e : (rankL S rows).getD (runK (ltR (rankL S rows)) (kas_sort rows.length)).toList[k] 0 = k := by
      have hq : ((runK (ltR (rankL S rows)) (kas_sort rows.length)).toList.map fun i => (rankL S rows).getD i 0)[k]? = (List.range rows.length)[k]? := by rw [g2]
      rw [List.getElem?_map, List.getElem?_eq_getElem h1, List.getElem?_range (by rw [hp.length_eq] at h2; exact h2)] at hq
      simpa using hq
    obtain ⟨m1, e1⟩ := hget _ hk
    rw [e1] at e
    have i1 := idxOf_get (hm _ m1)
    rw [e, List.getElem?_eq_getElem h2] at i1
    exact (Option.some.inj i1).symm
end Mine
set_option maxHeartbeats 400000
namespace Mine
/-- over all pairs, the former first -/
noncomputable def pairS {β : Type} (X : β → β → Int) : List β → Int
  | [] => 0
  | a :: l => (l.map fun b => X a b).sum + pairS X l
theorem pairS_cons {β : Type} (X : β → β → Int) (a : β) (l : List β) : pairS X (a :: l) = (l.map fun b => X a b).sum + pairS X l := rfl
theorem sum_app (l r : List Int) : (l ++ r).sum = l.sum + r.sum := by
  induction l with
  | nil => simp
  | cons a l ih => rw [List.cons_append, List.sum_cons, List.sum_cons, ih]; (first | lia | omega)
theorem sum_perm {l r : List Int} (h : l.Perm r) : l.sum = r.sum := by
  induction h with
  | nil => rfl
  | cons a _ ih => rw [List.sum_cons, List.sum_cons, ih]
  | swap a b l => simp only [List.sum_cons]; (first | lia | omega)
  | trans _ _ h1 h2 => exact h1.trans h2
theorem pairS_snoc {β : Type} (X : β → β → Int) (a : β) : ∀ l : List β, pairS X (l ++ [a]) = pairS X l + (l.map fun b => X b a).sum
  | [] => by simp [pairS]
  | b :: l => by
    rw [List.cons_append, pairS_cons, pairS_cons, pairS_snoc X a l, List.map_append, sum_app, List.map_cons, List.sum_cons]
    simp only [List.map_cons, List.map_nil, List.sum_cons, List.sum_nil]
    (first | lia | omega)
theorem pairS_perm {β : Type} {X : β → β → Int} (hX : ∀ a b, X a b = X b a) {l r : List β} (h : l.Perm r) : pairS X l = pairS X r := by
  induction h with
  | nil => rfl
  | cons a p ih => rw [pairS_cons, pairS_cons, ih, sum_perm (p.map _)]
  | swap a b l =>
    simp only [pairS, List.map_cons, List.sum_cons]
    rw [hX a b]; (first | lia | omega)
  | trans _ _ h1 h2 => exact h1.trans h2
/-- all pairs from two lists -/
noncomputable def crossS {β : Type} (X : β → β → Int) (l r : List β) : Int := (l.map fun a => (r.map fun b => X a b).sum).sum
theorem crossS_cons {β : Type} (X : β → β → Int) (a : β) (l r : List β) : crossS X (a :: l) r = (r.map fun b => X a b).sum + crossS X l r := rfl
theorem pairS_app {β : Type} (X : β → β → Int) (r : List β) : ∀ l : List β, pairS X (l ++ r) = pairS X l + crossS X l r + pairS X r
  | [] => by simp [pairS, crossS]
  | a :: l => by
    rw [List.cons_append, pairS_cons, pairS_cons, pairS_app X r l, List.map_append, sum_app, crossS_cons]
    (first | lia | omega)
theorem crossS_right {β : Type} (X : β → β → Int) (r r' : List β) : ∀ l : List β, crossS X l (r ++ r') = crossS X l r + crossS X l r'
  | [] => by simp [crossS]
  | a :: l => by rw [crossS_cons, crossS_cons, crossS_cons, crossS_right X r r' l, List.map_append, sum_app]; (first | lia | omega)
theorem crossS_flat {β γ : Type} (X : β → β → Int) (f : γ → List β) (l : List β) : ∀ ks : List γ, crossS X l (ks.flatMap f) = (ks.map fun k => crossS X l (f k)).sum
  | [] => by
    simp only [List.flatMap_nil, List.map_nil, List.sum_nil]
    unfold crossS
    induction l with
    | nil => rfl
    | cons a l ih => rw [List.map_cons, List.sum_cons, ih]; rfl
  | k :: ks => by rw [List.flatMap_cons, crossS_right, crossS_flat X f l ks, List.map_cons, List.sum_cons]
theorem pairS_flat {β γ : Type} {X : β → β → Int} {f : γ → List β} {Y : γ → γ → Int} : ∀ {ks : List γ}, (∀ k ∈ ks, pairS X (f k) = 0) → ks.Pairwise (fun a b => crossS X (f a) (f b) = Y a b) → pairS X (ks.flatMap f) = pairS Y ks
  | [], _, _ => rfl
  | k :: ks, h0, hp => by
    rw [List.pairwise_cons] at hp
    rw [List.flatMap_cons, pairS_app, pairS_flat (fun a ha => h0 a (.tail _ ha)) hp.2, h0 k (.head _), crossS_flat]
    rw [pairS_cons]
    have : (ks.map fun b => crossS X (f k) (f b)) = ks.map fun b => Y k b := List.map_congr_left fun b hb => hp.1 b hb
    rw [this]; (first | lia | omega)

theorem fold_sum {β : Type} (g : β → Int) : ∀ (l : List β) (c : Int), l.foldl (fun t x => t + g x) c = c + (l.map g).sum
  | [], c => by simp
  | a :: l, c => by rw [List.foldl_cons, fold_sum g l, List.map_cons, List.sum_cons]; (first | lia | omega)
/-- what a count of pairs by places comes to -/
noncomputable def placeS {β : Type} (X : β → β → Int) (l : List β) (t : Int) (k : Nat) : Int := match l[k]? with
  | some o => (l.take k).foldl (fun t x => t + X x o) t
  | none => t
theorem placeS_all {β : Type} (X : β → β → Int) (l : List β) : (List.range l.length).foldl (placeS X l) 0 = pairS X l := by
  induction l using snoc_ind with
  | h0 => rfl
  | h1 l a ih =>
    rw [List.length_append, List.length_singleton, List.range_succ, List.foldl_append, pairS_snoc, ← ih]
    have e1 : (List.range l.length).foldl (placeS X (l ++ [a])) 0 = (List.range l.length).foldl (placeS X l) 0 := by
      have : ∀ (ks : List Nat) (c : Int), (∀ k ∈ ks, k < l.length) → ks.foldl (placeS X (l ++ [a])) c = ks.foldl (placeS X l) c := by
        intro ks
        induction ks with
        | nil => intro c _; rfl
        | cons k ks ih2 =>
          intro c hk
          have hkl := hk k (.head _)
          have : placeS X (l ++ [a]) c k = placeS X l c k := by
            unfold placeS
            rw [List.getElem?_append_left hkl, List.take_append_of_le_length (Nat.le_of_lt hkl)]
          rw [List.foldl_cons, List.foldl_cons, this]
          exact ih2 _ fun j hj => hk j (.tail _ hj)
      exact this _ _ fun k hk => List.mem_range.mp hk
    rw [e1]
    show placeS X (l ++ [a]) _ l.length = _
    unfold placeS
    rw [List.getElem?_append_right (Nat.le_refl _), Nat.sub_self]
    show ((l ++ [a]).take l.length).foldl (fun t x => t + X x a) _ = _
    rw [List.take_left', fold_sum]
    rfl
/-- do two lines cross -/
noncomputable def lineX (x y : Int × Int) : Int := if cmpF (lineS x) (lineS y) selC != cmpF (lineS x) (lineS y) selF then 1 else 0
theorem crossF_pairS (lines : List (Int × Int)) : crossF lines = pairS lineX lines := by
  rw [← placeS_all]
  unfold crossF
  congr 1
  funext c k
  unfold crossAt placeS
  cases lines[k]? with
  | none => rfl
  | some o =>
    dsimp only
    congr 1
    funext c line
    unfold crossIn lineX
    split <;> simp
theorem totalF_pairS (cols : List (List Int)) (order : List Int) : totalF cols order = pairS (fun a b => overF (colAt cols a) (colAt cols b)) order := by
  rw [← placeS_all]
  unfold totalF
  congr 1
  funext c k
  unfold totalAt placeS
  cases order[k]? with
  | none => rfl
  | some o => rfl
theorem cmp_line (x y : Int × Int) : cmpF (lineS x) (lineS y) selC = (if x.1 < y.1 then -1 else if y.1 < x.1 then 1 else if x.2 < y.2 then -1 else if y.2 < x.2 then 1 else 0) ∧
    cmpF (lineS x) (lineS y) selF = (if x.2 < y.2 then -1 else if y.2 < x.2 then 1 else if x.1 < y.1 then -1 else if y.1 < x.1 then 1 else 0) := by
  obtain ⟨p, i⟩ := x
  obtain ⟨q, j⟩ := y
  unfold cmpF selC selF
  have e : ∀ (a b c d : Int) (k : Int), cmpStep (lineS (a, b)) (lineS (c, d)) (0, k) = (if a < c then some (-k) else if c < a then some k else none) ∧ cmpStep (lineS (a, b)) (lineS (c, d)) (1, k) = (if b < d then some (-k) else if d < b then some k else none) := by
    intro a b c d k
    unfold cmpStep lineS
    simp [Sc.lt]
  simp only [List.findSome?_cons, List.findSome?_nil, e]
  constructor
  · by_cases h1 : p < q
    · simp [h1]
    · by_cases h2 : q < p
      · simp [h1, h2]
      · by_cases h3 : i < j
        · simp [h1, h2, h3]
        · by_cases h4 : j < i
          · simp [h1, h2, h3, h4]
          · simp [h1, h2, h3, h4]
  · by_cases h1 : i < j
    · simp [h1]
    · by_cases h2 : j < i
      · simp [h1, h2]
      · by_cases h3 : p < q
        · simp [h1, h2, h3]
        · by_cases h4 : q < p
          · simp [h1, h2, h3, h4]
          · simp [h1, h2, h3, h4]
theorem lineX_eq (x y : Int × Int) : lineX x y = if (x.1 < y.1 ∧ y.2 < x.2) ∨ (y.1 < x.1 ∧ x.2 < y.2) then 1 else 0 := by
  unfold lineX
  rw [(cmp_line x y).1, (cmp_line x y).2]
  have h1 := Int.lt_trichotomy x.1 y.1
  have h2 := Int.lt_trichotomy x.2 y.2
  rcases h1 with h1 | h1 | h1 <;> rcases h2 with h2 | h2 | h2 <;> simp [h1, h2, Int.lt_irrefl] <;> (first | lia | omega)
theorem lineX_symm (x y : Int × Int) : lineX x y = lineX y x := by
  rw [lineX_eq, lineX_eq]
  have : ((x.1 < y.1 ∧ y.2 < x.2) ∨ (y.1 < x.1 ∧ x.2 < y.2)) ↔ ((y.1 < x.1 ∧ x.2 < y.2) ∨ (x.1 < y.1 ∧ y.2 < x.2)) := or_comm
  simp only [this]
theorem overF_sum (a b : List Int) : overF a b = (a.map fun h => (b.map fun t => if t < h then (1 : Int) else 0).sum).sum := by
  unfold overF
  induction a with
  | nil => rfl
  | cons h a ih =>
    rw [List.flatMap_cons, sum_app, ih, List.map_cons, List.sum_cons]
    congr 1
    clear ih
    induction b with
    | nil => rfl
    | cons t b ih2 =>
      by_cases q : t < h
      · rw [List.filter_cons_of_pos (by simpa using q), List.map_cons, List.sum_cons, ih2, List.map_cons, List.sum_cons, if_pos q]
      · rw [List.filter_cons_of_neg (by simpa using q), ih2, List.map_cons, List.sum_cons, if_neg q, Int.zero_add]
theorem overF_perm {a a' b b' : List Int} (ha : a.Perm a') (hb : b.Perm b') : overF a b = overF a' b' := by
  rw [overF_sum, overF_sum, sum_perm (ha.map _)]
  congr 1
  exact List.map_congr_left fun h _ => sum_perm (hb.map _)

theorem idx_pair {order : List Int} (hn : order.Nodup) : order.Pairwise fun a b => order.idxOf a < order.idxOf b := by
  rw [List.pairwise_iff_getElem]
  intro i j hi hj hij
  rw [hn.idxOf_getElem, hn.idxOf_getElem]
  exact hij
theorem total_cross (cols : List (List Int)) {order : List Int} (hn : order.Nodup) : totalF cols order = crossF (linesF cols order) := by
  rw [totalF_pairS, crossF_pairS]
  unfold linesF
  have hp : ((sortI order).flatMap fun k => (colAt cols k).map fun p => (p, ((order.idxOf k : Nat) : Int))).Perm (order.flatMap fun k => (colAt cols k).map fun p => (p, ((order.idxOf k : Nat) : Int))) := List.Perm.flatMap_right _ (sortI_perm order)
  rw [pairS_perm lineX_symm hp]
  symm
  refine pairS_flat (fun k _ => ?_) ?_
  · have : ∀ (c : List Int) (i : Int), pairS lineX (c.map fun p => (p, i)) = 0 := by
      intro c i
      induction c with
      | nil => rfl
      | cons p c ih =>
        rw [List.map_cons]
        unfold pairS
        rw [ih, List.map_map]
        have : ∀ l : List Int, (l.map ((fun b => lineX (p, i) b) ∘ fun p => (p, i))).sum = 0 := by
          intro l
          induction l with
          | nil => rfl
          | cons q l ih2 =>
            rw [List.map_cons, List.sum_cons, ih2]
            show lineX (p, i) (q, i) + 0 = 0
            rw [lineX_eq, if_neg (by simp)]; rfl
        rw [this]; rfl
    exact this _ _
  · refine (idx_pair hn).imp fun {a b} hab => ?_
    unfold crossS
    rw [overF_sum, List.map_map]
    congr 1
    refine List.map_congr_left fun h _ => ?_
    show (((colAt cols b).map fun p => (p, ((order.idxOf b : Nat) : Int))).map fun y => lineX (h, ((order.idxOf a : Nat) : Int)) y).sum = _
    rw [List.map_map]
    congr 1
    refine List.map_congr_left fun t _ => ?_
    show lineX (h, ((order.idxOf a : Nat) : Int)) (t, ((order.idxOf b : Nat) : Int)) = _
    rw [lineX_eq]
    dsimp only
    by_cases q : t < h
    · rw [if_pos q, if_pos (.inr ⟨q, by (first | lia | omega)⟩)]
    · rw [if_neg q, if_neg (by (first | lia | omega))]
end Mine
set_option maxHeartbeats 400000
namespace Mine
noncomputable def subsOf : List Int → List (List Int)
  | [] => [[]]
  | a :: l => subsOf l ++ (subsOf l).map fun s => a :: s
theorem filter_sub (p : Int → Bool) : ∀ l : List Int, l.filter p ∈ subsOf l
  | [] => by simp [subsOf]
  | a :: l => by
    have ih := filter_sub p l
    unfold subsOf
    cases h : p a with
    | true => rw [List.filter_cons_of_pos h]; exact List.mem_append_right _ (List.mem_map.mpr ⟨_, ih, rfl⟩)
    | false => rw [List.filter_cons_of_neg (by simp [h])]; exact List.mem_append_left _ ih
noncomputable def five : List Int := [0, 1, 2, 3, 4]
noncomputable def subsI : List (List Int) := subsOf five
/-- a column: places of callers, each once -/
structure ColOk (c : List Int) : Prop where
  nd : c.Nodup
  lt : ∀ a ∈ c, 0 ≤ a ∧ a < 5
theorem ColOk.sub {c : List Int} (h : ColOk c) : sortI c ∈ subsI := by
  have hp : (five.filter fun a => c.contains a).Perm c := by
    refine (List.perm_ext_iff_of_nodup (List.Nodup.sublist List.filter_sublist (by decide)) h.nd).mpr fun a => ?_
    rw [List.mem_filter]
    constructor
    · rintro ⟨_, q⟩; simpa using q
    · intro q
      obtain ⟨h1, h2⟩ := h.lt a q
      refine ⟨?_, by simpa using q⟩
      have : a = 0 ∨ a = 1 ∨ a = 2 ∨ a = 3 ∨ a = 4 := by (first | lia | omega)
      simpa [five] using this
  have hs : (five.filter fun a => c.contains a).Pairwise (· ≤ ·) := List.Pairwise.sublist List.filter_sublist (by decide)
  rw [← eq_sortI hp hs]
  exact filter_sub _ _

noncomputable def lowV (c : List Int) : Int := (sortI c).getD ((c.length - 1) / 2) 0
noncomputable def highV (c : List Int) : Int := (sortI c).getD (c.length / 2) 0
noncomputable def mxV (c : List Int) : Int := (sortI c).getD (c.length - 1) 0
noncomputable def mnV (c : List Int) : Int := (sortI c).getD 0 0
noncomputable def parV (c : List Int) : Int := (c.length : Int).fmod 2

/-- of a sorted one -/
noncomputable def low3 (A : List Int) : List Int := [A.getD ((A.length - 1) / 2) 0, -(A.length : Int).fmod 2, A.getD (A.length - 1) 0]
noncomputable def high3 (A : List Int) : List Int := [A.getD (A.length / 2) 0, (A.length : Int).fmod 2, A.getD 0 0]
noncomputable def okP (A B : List Int) : Bool := !(decide (0 < overF A B) && decide (3 * overF B A ≤ overF A B)) && !(decide (max A.length B.length < 3) && decide (overF B A < overF A B))
theorem chkLow : (subsI.all fun A => subsI.all fun B => A.isEmpty || B.isEmpty || lexI (low3 B) (low3 A) || okP A B) = true := by decide +kernel
theorem chkHigh : (subsI.all fun A => subsI.all fun B => A.isEmpty || B.isEmpty || lexI (high3 B) (high3 A) || okP A B) = true := by decide +kernel
noncomputable def midP (A : List Int) (k : Nat) : Bool := A.isEmpty || A.all fun p => ((A.filter fun o => decide (o < p)).length == k) == (p == A.getD k 0)
theorem chkMid : (subsI.all fun A => midP A ((A.length - 1) / 2) && midP A (A.length / 2)) = true := by decide +kernel

theorem okP_pair {A B : List Int} (h : okP A B = true) : PairOk A B := by
  unfold okP at h
  simp only [Bool.and_eq_true, Bool.not_eq_true', Bool.and_eq_false_iff, decide_eq_false_iff_not] at h
  refine ⟨fun ⟨a, b⟩ => h.1.elim (fun q => q a) fun q => q b, fun ⟨a, b⟩ => h.2.elim (fun q => q a) fun q => q b⟩
theorem PairOk.perm {a b A B : List Int} (ha : A.Perm a) (hb : B.Perm b) (h : PairOk A B) : PairOk a b := by
  unfold PairOk at h ⊢
  rw [overF_perm ha hb, overF_perm hb ha, ha.length_eq, hb.length_eq] at h
  exact h
theorem sortI_len (c : List Int) : (sortI c).length = c.length := (sortI_perm c).length_eq
theorem sortI_ne {c : List Int} (h : c ≠ []) : (sortI c).isEmpty = false := by
  cases q : sortI c with
  | nil => have := sortI_len c; rw [q] at this; exact absurd (List.eq_nil_of_length_eq_zero this.symm) h
  | cons _ _ => rfl
theorem pair_low {a b : List Int} (ha : ColOk a) (hb : ColOk b) (na : a ≠ []) (nb : b ≠ []) (h : lexI [lowV b, -parV b, mxV b] [lowV a, -parV a, mxV a] = false) : PairOk a b := by
  have h1 := List.all_eq_true.mp (List.all_eq_true.mp chkLow _ ha.sub) _ hb.sub
  have e : ∀ c, low3 (sortI c) = [lowV c, -parV c, mxV c] := fun c => by unfold low3 lowV parV mxV; rw [sortI_len]
  rw [sortI_ne na, sortI_ne nb, e, e, h] at h1
  simp only [Bool.false_or] at h1
  exact (okP_pair h1).perm (sortI_perm a) (sortI_perm b)
theorem pair_high {a b : List Int} (ha : ColOk a) (hb : ColOk b) (na : a ≠ []) (nb : b ≠ []) (h : lexI [highV b, parV b, mnV b] [highV a, parV a, mnV a] = false) : PairOk a b := by
  have h1 := List.all_eq_true.mp (List.all_eq_true.mp chkHigh _ ha.sub) _ hb.sub
  have e : ∀ c, high3 (sortI c) = [highV c, parV c, mnV c] := fun c => by unfold high3 highV parV mnV; rw [sortI_len]
  rw [sortI_ne na, sortI_ne nb, e, e, h] at h1
  simp only [Bool.false_or] at h1
  exact (okP_pair h1).perm (sortI_perm a) (sortI_perm b)

theorem sortI_at {c : List Int} {k : Nat} (h : k < c.length) : (sortI c).getD k 0 ∈ c := by
  have hl : k < (sortI c).length := by rw [sortI_len]; exact h
  have : (sortI c).getD k 0 = (sortI c)[k] := by simp [List.getD, hl]
  rw [this]
  exact (sortI_perm c).mem_iff.mp (List.getElem_mem hl)
theorem mx_ok {c : List Int} (h : c ≠ []) : mxV c ∈ c ∧ ∀ a ∈ c, a ≤ mxV c := by
  have hl : 0 < c.length := List.length_pos_iff.mpr h
  refine ⟨sortI_at (by (first | lia | omega)), fun a ha => ?_⟩
  have hm := (sortI_perm c).mem_iff.mpr ha
  obtain ⟨i, hi, e⟩ := List.getElem_of_mem hm
  have hl2 : c.length - 1 < (sortI c).length := by rw [sortI_len]; (first | lia | omega)
  have e2 : mxV c = (sortI c)[c.length - 1] := by unfold mxV; simp [List.getD, hl2]
  rw [e2, ← e]
  have hi' : i < c.length := by rw [sortI_len] at hi; exact hi
  by_cases q : i = c.length - 1
  · subst q; exact Int.le_refl _
  · exact List.pairwise_iff_getElem.mp (sortI_rises c) i _ hi hl2 (by (first | lia | omega))
theorem mn_ok {c : List Int} (h : c ≠ []) : mnV c ∈ c ∧ ∀ a ∈ c, mnV c ≤ a := by
  have hl : 0 < c.length := List.length_pos_iff.mpr h
  refine ⟨sortI_at (by (first | lia | omega)), fun a ha => ?_⟩
  have hm := (sortI_perm c).mem_iff.mpr ha
  obtain ⟨i, hi, e⟩ := List.getElem_of_mem hm
  have hl2 : 0 < (sortI c).length := by rw [sortI_len]; (first | lia | omega)
  have e2 : mnV c = (sortI c)[0] := by unfold mnV; simp [List.getD, hl2]
  rw [e2, ← e]
  by_cases q : i = 0
  · subst q; exact Int.le_refl _
  · exact List.pairwise_iff_getElem.mp (sortI_rises c) 0 _ hl2 hi (by (first | lia | omega))

theorem findSome_one {β : Type} {f : Int → Option β} {m : Int} {v : β} : ∀ {c : List Int}, (∀ p ∈ c, f p = if p = m then some v else none) → m ∈ c → c.findSome? f = some v
  | [], _, h => nomatch h
  | p :: c, hf, h => by
    rw [List.findSome?_cons, hf p (.head _)]
    by_cases q : p = m
    · rw [if_pos q]
    · rw [if_neg q]
      exact findSome_one (fun a ha => hf a (.tail _ ha)) ((List.mem_cons.mp h).resolve_left fun e => q e.symm)
theorem middle_at {c : List Int} (h : ColOk c) {k : Nat} (hk : k < c.length) (hm : midP (sortI c) k = true) : middleF c (k : Int) = .int ((sortI c).getD k 0) := by
  have hne : c ≠ [] := fun q => by rw [q] at hk; simp at hk
  unfold midP at hm
  rw [sortI_ne hne, Bool.false_or] at hm
  unfold middleF
  rw [findSome_one (m := (sortI c).getD k 0) (v := D.int ((sortI c).getD k 0)) (fun p hp => ?_) (sortI_at hk)]
  · rfl
  · have h1 := List.all_eq_true.mp hm p ((sortI_perm c).mem_iff.mpr hp)
    rw [beq_iff_eq] at h1
    have hl : ((sortI c).filter fun o => decide (o < p)).length = (c.filter fun o => decide (o < p)).length := ((sortI_perm c).filter _).length_eq
    rw [hl] at h1
    unfold midStep
    by_cases q : p = (sortI c).getD k 0
    · rw [if_pos q]
      have : ((c.filter fun o => decide (o < p)).length == k) = true := by rw [h1]; simpa using q
      rw [beq_iff_eq] at this
      rw [this, if_pos (by simp), q]
    · rw [if_neg q]
      have : ((c.filter fun o => decide (o < p)).length == k) = false := by rw [h1]; simpa using q
      rw [beq_eq_false_iff_ne] at this
      rw [if_neg]
      intro e
      rw [beq_iff_eq] at e
      exact this (by (first | lia | omega))
theorem low_middle {c : List Int} (h : ColOk c) : lowF c = middleF c (((c.length : Int) - 1).fdiv 2) := by
  unfold lowF
  by_cases hc : c = []
  · subst hc; rfl
  · rw [if_neg hc]
    have hl : 0 < c.length := List.length_pos_iff.mpr hc
    have e : ((c.length : Int) - 1).fdiv 2 = (((c.length - 1) / 2 : Nat) : Int) := by rw [Int.fdiv_eq_ediv_of_nonneg _ (by (first | lia | omega))]; (first | lia | omega)
    have hm := List.all_eq_true.mp chkMid _ h.sub
    rw [Bool.and_eq_true, sortI_len] at hm
    rw [e, middle_at h (by (first | lia | omega)) hm.1]
theorem high_middle {c : List Int} (h : ColOk c) : highF c = middleF c ((c.length : Int).fdiv 2) := by
  unfold highF
  by_cases hc : c = []
  · subst hc; rfl
  · rw [if_neg hc]
    have hl : 0 < c.length := List.length_pos_iff.mpr hc
    have e : (c.length : Int).fdiv 2 = ((c.length / 2 : Nat) : Int) := by rw [Int.fdiv_eq_ediv_of_nonneg _ (by (first | lia | omega))]; (first | lia | omega)
    have hm := List.all_eq_true.mp chkMid _ h.sub
    rw [Bool.and_eq_true, sortI_len] at hm
    rw [e, middle_at h (by (first | lia | omega)) hm.2]
end Mine
set_option maxHeartbeats 400000
namespace Mine
theorem cmpF_cons (a b : List Sc) (p : Int × Int) (sel : List (Int × Int)) {x y : Int} (hx : a[p.1.toNat]? = some (.i x)) (hy : b[p.1.toNat]? = some (.i y)) : cmpF a b (p :: sel) = if x < y then -p.2 else if y < x then p.2 else cmpF a b sel := by
  unfold cmpF
  rw [List.findSome?_cons]
  unfold cmpStep
  rw [hx, hy]
  simp only [Sc.lt]
  by_cases h1 : x < y
  · simp [h1]
  · by_cases h2 : y < x
    · simp [h1, h2]
    · simp [h1, h2]
theorem cmpF_nil (a b : List Sc) : cmpF a b [] = 0 := rfl
theorem lexI_cons (x y : Int) (l r : List Int) : lexI (x :: l) (y :: r) = if x = y then lexI l r else decide (x < y) := rfl
theorem step_up {x y R : Int} {l r : List Int} (h : R = -1 ↔ lexI l r = true) : (if x < y then (-1 : Int) else if y < x then 1 else R) = -1 ↔ lexI (x :: l) (y :: r) = true := by
  rw [lexI_cons]
  rcases Int.lt_trichotomy x y with q | q | q
  · rw [if_pos q, if_neg (by (first | lia | omega))]; simp [q]
  · subst q; simpa using h
  · rw [if_neg (by (first | lia | omega)), if_pos q, if_neg (by (first | lia | omega))]; simp; (first | lia | omega)
theorem step_down {x y R : Int} {l r : List Int} (h : R = -1 ↔ lexI l r = true) : (if x < y then (- -1 : Int) else if y < x then -1 else R) = -1 ↔ lexI (-x :: l) (-y :: r) = true := by
  rw [lexI_cons]
  rcases Int.lt_trichotomy x y with q | q | q
  · rw [if_pos q, if_neg (by (first | lia | omega))]; simp; (first | lia | omega)
  · subst q; simpa using h
  · rw [if_neg (by (first | lia | omega)), if_pos q, if_neg (by (first | lia | omega))]; simp; (first | lia | omega)

noncomputable def selLow : List (Int × Int) := [(0, 1), (1, -1), (2, 1), (3, 1)]
noncomputable def selHigh : List (Int × Int) := [(0, 1), (1, 1), (2, 1), (3, 1)]
noncomputable def row4 (q : Int × Int × Int × Int) : List Sc := [.i q.1, .i q.2.1, .i q.2.2.1, .i q.2.2.2]
noncomputable def get4 : List Sc → Int × Int × Int × Int
  | [.i a, .i b, .i c, .i d] => (a, b, c, d)
  | _ => (0, 0, 0, 0)
theorem get4_row4 (q : Int × Int × Int × Int) : get4 (row4 q) = q := rfl
noncomputable def keyL4 (r : List Sc) : List Int := [(get4 r).1, -(get4 r).2.1, (get4 r).2.2.1, (get4 r).2.2.2]
noncomputable def keyH4 (r : List Sc) : List Int := [(get4 r).1, (get4 r).2.1, (get4 r).2.2.1, (get4 r).2.2.2]
noncomputable def kfLow (r : List Sc) : List Sc := [.i (get4 r).1, .i (-(get4 r).2.1), .i (get4 r).2.2.1, .i (get4 r).2.2.2]
theorem cmp_low (p q : Int × Int × Int × Int) : cmpF (row4 p) (row4 q) selLow = -1 ↔ lexI (keyL4 (row4 p)) (keyL4 (row4 q)) = true := by
  unfold selLow
  rw [cmpF_cons _ _ _ _ (x := p.1) (y := q.1) rfl rfl, cmpF_cons _ _ _ _ (x := p.2.1) (y := q.2.1) rfl rfl, cmpF_cons _ _ _ _ (x := p.2.2.1) (y := q.2.2.1) rfl rfl, cmpF_cons _ _ _ _ (x := p.2.2.2) (y := q.2.2.2) rfl rfl, cmpF_nil]
  exact step_up (step_down (step_up (step_up (by simp [lexI]))))
theorem cmp_high (p q : Int × Int × Int × Int) : cmpF (row4 p) (row4 q) selHigh = -1 ↔ lexI (keyH4 (row4 p)) (keyH4 (row4 q)) = true := by
  unfold selHigh
  rw [cmpF_cons _ _ _ _ (x := p.1) (y := q.1) rfl rfl, cmpF_cons _ _ _ _ (x := p.2.1) (y := q.2.1) rfl rfl, cmpF_cons _ _ _ _ (x := p.2.2.1) (y := q.2.2.1) rfl rfl, cmpF_cons _ _ _ _ (x := p.2.2.2) (y := q.2.2.2) rfl rfl, cmpF_nil]
  exact step_up (step_up (step_up (step_up (by simp [lexI]))))
theorem lexLt_ints : ∀ l r : List Int, lexLt (l.map Sc.i) (r.map Sc.i) = lexI l r
  | a :: l, b :: r => by
    rw [List.map_cons, List.map_cons]
    unfold lexLt lexI
    by_cases h : a = b
    · subst h; simp [lexLt_ints l r]
    · have : ¬ Sc.i a = Sc.i b := fun q => h (by cases q; rfl)
      rw [if_neg h, if_neg this]; rfl
  | [], [] => rfl
  | [], _ :: _ => rfl
  | _ :: _, [] => rfl
theorem kfLow_lex (a b : List Sc) : lexLt (kfLow a) (kfLow b) = lexI (keyL4 a) (keyL4 b) := lexLt_ints (keyL4 a) (keyL4 b)
theorem row4_lex (p q : Int × Int × Int × Int) : lexLt (row4 p) (row4 q) = lexI (keyH4 (row4 p)) (keyH4 (row4 q)) := lexLt_ints (keyH4 (row4 p)) (keyH4 (row4 q))
theorem lex4_3 {a b c d a' b' c' d' : Int} (h : lexI [a, b, c, d] [a', b', c', d'] = true) : lexI [a', b', c'] [a, b, c] = false := by
  rw [lexI_cons] at h ⊢
  by_cases h1 : a = a'
  · subst h1
    rw [if_pos rfl] at h ⊢
    rw [lexI_cons] at h ⊢
    by_cases h2 : b = b'
    · subst h2
      rw [if_pos rfl] at h ⊢
      rw [lexI_cons] at h ⊢
      by_cases h3 : c = c'
      · subst h3; rw [if_pos rfl]; rfl
      · rw [if_neg h3] at h; rw [if_neg (fun q => h3 q.symm)]
        have := of_decide_eq_true h
        exact decide_eq_false (by (first | lia | omega))
    · rw [if_neg h2] at h; rw [if_neg (fun q => h2 q.symm)]
      have := of_decide_eq_true h
      exact decide_eq_false (by (first | lia | omega))
  · rw [if_neg h1] at h; rw [if_neg (fun q => h1 q.symm)]
    have := of_decide_eq_true h
    exact decide_eq_false (by (first | lia | omega))

section
variable {cols : List (List Int)}
/-- the functions that anybody calls -/
noncomputable def calledF (cols : List (List Int)) : List Nat := (List.range 6).filter fun k => !(colAt cols k).isEmpty
noncomputable def lowQ (cols : List (List Int)) (k : Nat) : Int × Int × Int × Int := (lowV (colAt cols k), parV (colAt cols k), mxV (colAt cols k), (k : Int))
noncomputable def highQ (cols : List (List Int)) (k : Nat) : Int × Int × Int × Int := (highV (colAt cols k), parV (colAt cols k), mnV (colAt cols k), (k : Int))
noncomputable def lowRows (cols : List (List Int)) : List (List Sc) := (calledF cols).map fun k => row4 (lowQ cols k)
noncomputable def highRows (cols : List (List Int)) : List (List Sc) := (calledF cols).map fun k => row4 (highQ cols k)
theorem called_nodup (cols : List (List Int)) : (calledF cols).Nodup := List.Nodup.sublist List.filter_sublist List.nodup_range
theorem rows_nodup {f : Nat → Int × Int × Int × Int} (hf : ∀ k, (f k).2.2.2 = (k : Int)) (l : List Nat) (hl : l.Nodup) : (l.map fun k => row4 (f k)).Nodup := by
  rw [List.nodup_iff_pairwise_ne, List.pairwise_map]
  refine (List.nodup_iff_pairwise_ne.mp hl).imp fun {a b} hne q => hne ?_
  have := congrArg (fun r => (get4 r).2.2.2) q
  simp only [get4_row4, hf] at this
  (first | lia | omega)
theorem rows_tot {f : Nat → Int × Int × Int × Int} (l : List Nat) (K : List Sc → List Int) (hl : ∀ r, (K r).length = 4) (hi : ∀ p q, K (row4 p) = K (row4 q) → p = q) : Tot (l.map fun k => row4 (f k)) fun a b => lexI (K a) (K b) :=
  Tot.of_key (m := 4) K (fun a _ => hl a) (fun a ha b hb h => by
    obtain ⟨i, _, rfl⟩ := List.mem_map.mp ha
    obtain ⟨j, _, rfl⟩ := List.mem_map.mp hb
    rw [hi _ _ h]) fun _ _ _ _ => rfl
theorem keyL4_inj (p q : Int × Int × Int × Int) (h : keyL4 (row4 p) = keyL4 (row4 q)) : p = q := by
  obtain ⟨a, b, c, d⟩ := p
  obtain ⟨a', b', c', d'⟩ := q
  unfold keyL4 at h
  simp only [get4_row4, List.cons.injEq, and_true] at h
  obtain ⟨h1, h2, h3, h4⟩ := h
  have : b = b' := by (first | lia | omega)
  rw [h1, this, h3, h4]
theorem keyH4_inj (p q : Int × Int × Int × Int) (h : keyH4 (row4 p) = keyH4 (row4 q)) : p = q := by
  obtain ⟨a, b, c, d⟩ := p
  obtain ⟨a', b', c', d'⟩ := q
  unfold keyH4 at h
  simp only [get4_row4, List.cons.injEq, and_true] at h
  obtain ⟨h1, h2, h3, h4⟩ := h
  rw [h1, h2, h3, h4]
noncomputable def ltL (a b : List Sc) : Bool := lexI (keyL4 a) (keyL4 b)
noncomputable def ltH (a b : List Sc) : Bool := lexI (keyH4 a) (keyH4 b)
theorem low_tot (cols : List (List Int)) : Tot (lowRows cols) ltL := rows_tot _ keyL4 (fun _ => rfl) keyL4_inj
theorem high_tot (cols : List (List Int)) : Tot (highRows cols) ltH := rows_tot _ keyH4 (fun _ => rfl) keyH4_inj
theorem low_nodup (cols : List (List Int)) : (lowRows cols).Nodup := rows_nodup (f := lowQ cols) (fun _ => rfl) _ (called_nodup cols)
theorem high_nodup (cols : List (List Int)) : (highRows cols).Nodup := rows_nodup (f := highQ cols) (fun _ => rfl) _ (called_nodup cols)
theorem low_laid (cols : List (List Int)) : (laidF selLow (lowRows cols)).Perm (lowRows cols) ∧ (laidF selLow (lowRows cols)).Pairwise fun a b => ltL a b = true :=
  laidF_sorted (low_tot cols) (fun a ha b hb => by
    obtain ⟨i, _, rfl⟩ := List.mem_map.mp ha
    obtain ⟨j, _, rfl⟩ := List.mem_map.mp hb
    exact cmp_low _ _) (low_nodup cols)
theorem high_laid (cols : List (List Int)) : (laidF selHigh (highRows cols)).Perm (highRows cols) ∧ (laidF selHigh (highRows cols)).Pairwise fun a b => ltH a b = true :=
  laidF_sorted (high_tot cols) (fun a ha b hb => by
    obtain ⟨i, _, rfl⟩ := List.mem_map.mp ha
    obtain ⟨j, _, rfl⟩ := List.mem_map.mp hb
    exact cmp_high _ _) (high_nodup cols)

/-- what well asks of an order -/
structure WellOk (cols : List (List Int)) (S : List (List Sc)) : Prop where
  h3 : ∀ r ∈ S, r[3]? = some (.i (key3 r)) ∧ 0 ≤ key3 r ∧ key3 r < 6
  len : S.length ≤ 10
  hok : ∀ k o one, (S.map key3)[k]? = some o → one ∈ (S.map key3).take k → PairOk (colAt cols one) (colAt cols o)
  tot : (totalF cols (S.map key3) == crossF (linesF cols (S.map key3))) = true
theorem well_of {f : Nat → Int × Int × Int × Int} {S : List (List Sc)} {lt : List Sc → List Sc → Bool} (hf : ∀ k, (f k).2.2.2 = (k : Int)) (hp : S.Perm ((calledF cols).map fun k => row4 (f k))) (hs : S.Pairwise fun a b => lt a b = true)
    (hpair : ∀ i j, i ∈ calledF cols → j ∈ calledF cols → lt (row4 (f i)) (row4 (f j)) = true → PairOk (colAt cols i) (colAt cols j)) : WellOk cols S := by
  have hk : ∀ k, key3 (row4 (f k)) = (k : Int) := fun k => by show (f k).2.2.2 = _; exact hf k
  have hmem : ∀ r ∈ S, ∃ k ∈ calledF cols, row4 (f k) = r := fun r hr => List.mem_map.mp (hp.mem_iff.mp hr)
  have hlt : ∀ k ∈ calledF cols, k < 6 := fun k hk => List.mem_range.mp (List.mem_filter.mp hk).1
  refine ⟨fun r hr => ?_, ?_, fun k o one hko hone => ?_, ?_⟩
  · obtain ⟨k, hkc, rfl⟩ := hmem r hr
    have := hlt k hkc
    rw [hk]
    exact ⟨by show some (Sc.i (f k).2.2.2) = _; rw [hf], by (first | lia | omega), by (first | lia | omega)⟩
  · rw [hp.length_eq, List.length_map]
    exact Nat.le_trans (List.length_filter_le ..) (by simp)
  · rw [← List.map_take, List.mem_map] at hone
    obtain ⟨r1, hr1, rfl⟩ := hone
    rw [List.getElem?_map] at hko
    obtain ⟨r2, hr2, rfl⟩ := Option.map_eq_some_iff.mp hko
    have hkl := (List.getElem?_eq_some_iff.mp hr2).1
    have hlt12 : lt r1 r2 = true := by
      obtain ⟨i, hi, e⟩ := List.getElem_of_mem hr1
      rw [List.getElem_take] at e
      rw [List.length_take] at hi
      have e2 : S[k] = r2 := (List.getElem?_eq_some_iff.mp hr2).2
      rw [← e, ← e2]
      exact List.pairwise_iff_getElem.mp hs i k (by (first | lia | omega)) hkl (by (first | lia | omega))
    obtain ⟨i, hi, rfl⟩ := hmem r1 (List.mem_of_mem_take hr1)
    obtain ⟨j, hj, rfl⟩ := hmem r2 (List.mem_of_getElem? hr2)
    rw [hk, hk]
    exact hpair i j hi hj hlt12
  · have hn : (S.map key3).Nodup := by
      refine (hp.map key3).symm.nodup ?_
      rw [List.map_map]
      have : (key3 ∘ fun k => row4 (f k)) = fun k : Nat => (k : Int) := by funext k; exact hk k
      rw [this, List.nodup_iff_pairwise_ne, List.pairwise_map]
      exact (List.nodup_iff_pairwise_ne.mp (called_nodup cols)).imp fun {a b} hne q => hne (by (first | lia | omega))
    rw [total_cross cols hn]
    exact beq_self_eq_true _
theorem called_ok {k : Nat} (hk : k ∈ calledF cols) : colAt cols k ≠ [] := fun q => by
  have := (List.mem_filter.mp hk).2
  rw [q] at this
  simp at this
theorem col_ok (hc : ∀ c ∈ cols, ColOk c) {k : Int} : ColOk (colAt cols k) := by
  unfold colAt
  by_cases h : k.toNat < cols.length
  · have : cols.getD k.toNat [] = cols[k.toNat] := by simp [List.getD, h]
    rw [this]; exact hc _ (List.getElem_mem h)
  · have : cols.getD k.toNat [] = [] := by simp [List.getD, Nat.le_of_not_lt h]
    rw [this]; exact ⟨by simp, fun _ h => nomatch h⟩
theorem low_well (hc : ∀ c ∈ cols, ColOk c) : WellOk cols (laidF selLow (lowRows cols)) :=
  well_of (f := lowQ cols) (fun _ => rfl) (low_laid cols).1 (low_laid cols).2 fun i j hi hj h => pair_low (col_ok hc) (col_ok hc) (called_ok hi) (called_ok hj) (lex4_3 h)
theorem high_well (hc : ∀ c ∈ cols, ColOk c) : WellOk cols (laidF selHigh (highRows cols)) :=
  well_of (f := highQ cols) (fun _ => rfl) (high_laid cols).1 (high_laid cols).2 fun i j hi hj h => pair_high (col_ok hc) (col_ok hc) (called_ok hi) (called_ok hj) (lex4_3 h)
end
end Mine
set_option maxHeartbeats 400000
namespace Mine
noncomputable def selU : List (Int × Int) := [(0, -1), (1, 1)]
noncomputable def rowU (q : Int) (c : Int) : List Sc := [.i q, .s (letter c)]
noncomputable def numU : List Sc → Int
  | .i q :: _ => q
  | _ => 0
noncomputable def nameU : List Sc → Str
  | [_, .s x] => x
  | _ => Str.empty
noncomputable def keyU (r : List Sc) : List Int := [-numU r, decL (nameU r)]
noncomputable def kfU (r : List Sc) : List Sc := [.i (-numU r), .s (nameU r)]
noncomputable def ltU (a b : List Sc) : Bool := lexI (keyU a) (keyU b)
theorem letter_lt {c d : Int} (hc : 0 ≤ c) (hd : 0 ≤ d) : ((letter c).cps.toList < (letter d).cps.toList) ↔ c < d := by
  show [97 + c.toNat] < [97 + d.toNat] ↔ _
  rw [List.cons_lt_cons_iff]
  constructor
  · rintro (h | ⟨_, h⟩)
    · (first | lia | omega)
    · exact absurd h (by simp)
  · intro h; exact .inl (by (first | lia | omega))
theorem cmpF_consS (a b : List Sc) (p : Int × Int) (sel : List (Int × Int)) {x y : Sc} (hx : a[p.1.toNat]? = some x) (hy : b[p.1.toNat]? = some y) : cmpF a b (p :: sel) = if x.lt y = true then -p.2 else if y.lt x = true then p.2 else cmpF a b sel := by
  unfold cmpF
  rw [List.findSome?_cons]
  unfold cmpStep
  rw [hx, hy]
  dsimp only
  by_cases h1 : x.lt y = true
  · simp [h1]
  · by_cases h2 : y.lt x = true
    · simp [h1, h2]
    · simp [h1, h2]
theorem keyU_row {q c : Int} (hc : 0 ≤ c) : keyU (rowU q c) = [-q, c] := by unfold keyU rowU; simp only [numU, nameU, decL_letter hc]
theorem cmp_U {q c r d : Int} (hc : 0 ≤ c) (hd : 0 ≤ d) : cmpF (rowU q c) (rowU r d) selU = -1 ↔ lexI (keyU (rowU q c)) (keyU (rowU r d)) = true := by
  unfold selU
  rw [cmpF_cons _ _ _ _ (x := q) (y := r) rfl rfl, keyU_row hc, keyU_row hd]
  refine step_down ?_
  have e : cmpF (rowU q c) (rowU r d) [(1, 1)] = if c < d then -1 else if d < c then 1 else 0 := by
    rw [cmpF_consS _ _ _ _ (x := .s (letter c)) (y := .s (letter d)) rfl rfl, cmpF_nil]
    have h1 : (Sc.s (letter c)).lt (Sc.s (letter d)) = decide (c < d) := by
      show decide _ = _
      by_cases q1 : c < d
      · rw [decide_eq_true ((letter_lt hc hd).mpr q1), decide_eq_true q1]
      · rw [decide_eq_false (fun e => q1 ((letter_lt hc hd).mp e)), decide_eq_false q1]
    have h2 : (Sc.s (letter d)).lt (Sc.s (letter c)) = decide (d < c) := by
      show decide _ = _
      by_cases q1 : d < c
      · rw [decide_eq_true ((letter_lt hd hc).mpr q1), decide_eq_true q1]
      · rw [decide_eq_false (fun e => q1 ((letter_lt hd hc).mp e)), decide_eq_false q1]
    rw [h1, h2]
    by_cases q1 : c < d
    · simp [q1]
    · by_cases q2 : d < c
      · simp [q1, q2]
      · simp [q1, q2]
  rw [e]
  exact step_up (by simp [lexI])
theorem lex_U {q c r d : Int} (hc : 0 ≤ c) (hd : 0 ≤ d) : lexLt (kfU (rowU q c)) (kfU (rowU r d)) = ltU (rowU q c) (rowU r d) := by
  unfold ltU
  rw [keyU_row hc, keyU_row hd]
  unfold kfU rowU lexI
  simp only [numU, nameU]
  unfold lexLt
  by_cases h : -q = -r
  · rw [if_pos h, if_pos (by rw [h])]
    unfold lexLt lexI
    by_cases h2 : c = d
    · subst h2; rw [if_pos rfl, if_pos rfl]; rfl
    · rw [if_neg h2, if_neg (fun e => h2 (letter_inj hc hd (Sc.s.inj e)))]
      show decide ((letter c).cps.toList < (letter d).cps.toList) = _
      by_cases q1 : c < d
      · rw [decide_eq_true ((letter_lt hc hd).mpr q1), decide_eq_true q1]
      · rw [decide_eq_false (fun e => q1 ((letter_lt hc hd).mp e)), decide_eq_false q1]
  · rw [if_neg h, if_neg (fun e => h (Sc.i.inj e))]; rfl

section
variable {log : List Row}
noncomputable def reportF (log : List Row) : List (List Sc) := (presI log).map fun c => rowU (callsOf log c) c
noncomputable def upperF (log : List Row) : List (List Sc) := laidF selU (reportF log)
theorem report_mem (L : LogOk log) {r : List Sc} (h : r ∈ reportF log) : ∃ q c, 0 ≤ c ∧ c < 5 ∧ c ∈ presI log ∧ r = rowU q c := by
  obtain ⟨c, hc, rfl⟩ := List.mem_map.mp h
  obtain ⟨h1, h2⟩ := presI_range L hc
  exact ⟨_, c, h1, h2, hc, rfl⟩
theorem report_name {q c : Int} : nameU (rowU q c) = letter c := rfl
theorem report_tot (L : LogOk log) : Tot (reportF log) ltU := Tot.of_key (m := 2) keyU (fun _ _ => rfl) (fun a ha b hb h => by
  obtain ⟨q, c, h1, _, _, rfl⟩ := report_mem L ha
  obtain ⟨r, d, h2, _, _, rfl⟩ := report_mem L hb
  rw [keyU_row h1, keyU_row h2] at h
  simp only [List.cons.injEq, and_true] at h
  rw [show q = r by (first | lia | omega), h.2]) fun _ _ _ _ => rfl
theorem report_nodup (L : LogOk log) : (reportF log).Nodup := by
  unfold reportF
  rw [List.nodup_iff_pairwise_ne, List.pairwise_map]
  refine (List.nodup_iff_pairwise_ne.mp (presI_nodup log)).imp_of_mem fun {a b} ha hb hne q => hne ?_
  have := congrArg nameU q
  exact letter_inj (presI_range L ha).1 (presI_range L hb).1 this
theorem upper_sorted (L : LogOk log) : (upperF log).Perm (reportF log) ∧ (upperF log).Pairwise fun a b => ltU a b = true :=
  laidF_sorted (report_tot L) (fun a ha b hb => by
    obtain ⟨q, c, h1, _, _, rfl⟩ := report_mem L ha
    obtain ⟨r, d, h2, _, _, rfl⟩ := report_mem L hb
    exact cmp_U h1 h2) (report_nodup L)
noncomputable def headsF (log : List Row) : List Str := (upperF log).map nameU
theorem heads_perm (L : LogOk log) : (headsF log).Perm ((presI log).map letter) := by
  have := (upper_sorted L).1.map nameU
  unfold reportF at this
  rwa [List.map_map] at this
theorem heads_nodup (L : LogOk log) : (headsF log).Nodup := (heads_perm L).symm.nodup (map_letter_nodup (presI_nodup log) fun c hc => (presI_range L hc).1)
theorem pres_length (L : LogOk log) : (presI log).length = 4 ∨ (presI log).length = 5 := by
  rcases presI_cases L with h | h <;> rw [h] <;> simp
theorem heads_length (L : LogOk log) : (headsF log).length ≤ 5 := by
  rw [(heads_perm L).length_eq, List.length_map]
  rcases pres_length L with h | h <;> (first | lia | omega)
theorem heads_mem (L : LogOk log) {f : Int} {k : Str} (h : k ∈ keysD (bookF log f).t) : k ∈ headsF log := by
  rw [(heads_perm L).mem_iff]
  obtain ⟨r, hr, _, e⟩ := (book_keys log f k).mp h
  exact List.mem_map.mpr ⟨r.2.1, (presI_mem L).mpr ⟨r, hr, rfl⟩, e⟩
noncomputable def colF (log : List Row) (e : Ent) : List Int := (keysD e.t).map fun k => (((headsF log).idxOf k : Nat) : Int)
noncomputable def colsF (log : List Row) : List (List Int) := (booksF log).map (colF log)
theorem str_idx_inj {S : List Str} {x y : Str} (hx : x ∈ S) (hy : y ∈ S) (h : S.idxOf x = S.idxOf y) : x = y := by
  have h1 := List.getElem_idxOf (List.idxOf_lt_length_of_mem hx)
  have h2 := List.getElem_idxOf (List.idxOf_lt_length_of_mem hy)
  rw [← h1, ← h2]
  congr 1
theorem col_is_ok (L : LogOk log) (f : Int) : ColOk (colF log (bookF log f)) := by
  refine ⟨?_, fun a ha => ?_⟩
  · unfold colF
    rw [List.nodup_iff_pairwise_ne, List.pairwise_map]
    refine (List.nodup_iff_pairwise_ne.mp (book_nodup log f)).imp_of_mem fun {a b} ha hb hne q => hne ?_
    exact str_idx_inj (heads_mem L ha) (heads_mem L hb) (by (first | lia | omega))
  · obtain ⟨k, hk, rfl⟩ := List.mem_map.mp ha
    have := List.idxOf_lt_length_of_mem (heads_mem L hk)
    have := heads_length L
    (first | lia | omega)
theorem cols_ok (L : LogOk log) : ∀ c ∈ colsF log, ColOk c := fun c hc => by
  obtain ⟨e, he, rfl⟩ := List.mem_map.mp hc
  unfold booksF at he
  obtain ⟨i, _, rfl⟩ := List.mem_map.mp he
  exact col_is_ok L _
theorem cols_length (log : List Row) : (colsF log).length = 6 := by simp [colsF, booksF]
theorem cols_at {f : Nat} (hf : f < 6) : colAt (colsF log) (f : Int) = colF log (bookF log f) := by
  unfold colAt colsF booksF
  rw [List.map_map]
  show List.getD _ f [] = _
  rw [List.getD, List.getElem?_map, List.getElem?_range hf]
  rfl
theorem cols_ne (L : LogOk log) {f : Nat} (hf : f < 5) : colAt (colsF log) (f : Int) ≠ [] := by
  rw [cols_at (by (first | lia | omega))]
  intro q
  unfold colF at q
  rw [List.map_eq_nil_iff] at q
  have key : ∀ p ∈ base.map pr, p.1 = (f : Int) → False := fun p hp e => by
    obtain ⟨r, hr, e'⟩ := List.mem_map.mp (L.all p hp)
    have : letter r.2.1 ∈ keysD (bookF log f).t := (book_keys log f _).mpr ⟨r, hr, by rw [← e, ← e']; rfl, rfl⟩
    rw [q] at this; cases this
  have : f = 0 ∨ f = 1 ∨ f = 2 ∨ f = 3 ∨ f = 4 := by (first | lia | omega)
  rcases this with rfl | rfl | rfl | rfl | rfl
  · exact key (0, 2) (by decide) rfl
  · exact key (1, 2) (by decide) rfl
  · exact key (2, 1) (by decide) rfl
  · exact key (3, 1) (by decide) rfl
  · exact key (4, 0) (by decide) rfl
theorem filter6 {p : Nat → Bool} (h : ∀ f : Nat, f < 5 → p f = true) : (List.range 6).filter p = [0, 1, 2, 3, 4] ∨ (List.range 6).filter p = [0, 1, 2, 3, 4, 5] := by
  have e : List.range 6 = [0, 1, 2, 3, 4, 5] := rfl
  rw [e]
  cases h5 : p 5
  · left; simp [List.filter, h 0 (by decide), h 1 (by decide), h 2 (by decide), h 3 (by decide), h 4 (by decide), h5]
  · right; simp [List.filter, h 0 (by decide), h 1 (by decide), h 2 (by decide), h 3 (by decide), h 4 (by decide), h5]
theorem called_cases (L : LogOk log) : calledF (colsF log) = [0, 1, 2, 3, 4] ∨ calledF (colsF log) = [0, 1, 2, 3, 4, 5] := by
  have h : ∀ f : Nat, f < 5 → (!(colAt (colsF log) (f : Int)).isEmpty) = true := fun f hf => by
    have := cols_ne L hf
    cases q : colAt (colsF log) (f : Int) with
    | nil => exact absurd q this
    | cons _ _ => rfl
  exact filter6 h
theorem rows_length (L : LogOk log) {f : Nat → Int × Int × Int × Int} : ((calledF (colsF log)).map fun k => row4 (f k)).length = 5 ∨ ((calledF (colsF log)).map fun k => row4 (f k)).length = 6 := by
  rw [List.length_map]
  rcases called_cases L with h | h <;> rw [h] <;> simp

/-- the sort by keys gives this row -/
noncomputable def SortsTo (kf : List Sc → List Sc) (rows S : List (List Sc)) : Prop :=
  ∃ r, (∀ i j, i < rows.length → j < rows.length → lexLt (kf (rows.getD i [])) (kf (rows.getD j [])) = ltR r i j) ∧ asksK (ltR r) rows.length (kas_sort rows.length) = true ∧
    (∀ i ∈ (runK (ltR r) (kas_sort rows.length)).toList, i < rows.length) ∧ (runK (ltR r) (kas_sort rows.length)).toList.length ≤ 6 ∧ ((runK (ltR r) (kas_sort rows.length)).toList.map fun i => rows.getD i []) = S
theorem sorts_of {kf : List Sc → List Sc} {rows S : List (List Sc)} {lt : List Sc → List Sc → Bool} {n : Nat} (hn : rows.length = n) (h6 : n ≤ 6) (hg : (listsK n n).all (goodK n) = true) (hnd : rows.Nodup) (hp : S.Perm rows) (hs : S.Pairwise fun a b => lt a b = true) (T : Tot rows lt)
    (hkf : ∀ a ∈ rows, ∀ b ∈ rows, lexLt (kf a) (kf b) = lt a b) : SortsTo kf rows S := by
  obtain ⟨s1, s2, s3, s4, s5⟩ := sort_eq hn hnd hp hs T hg
  have hmem : ∀ i, i < rows.length → rows.getD i [] ∈ rows := fun i hi => by simp [List.getD, hi]
  exact ⟨rankL S rows, fun i j hi hj => by rw [← s1 i j hi hj]; exact hkf _ (hmem i hi) _ (hmem j hj), s2, s3, Nat.le_trans s4 h6, s5⟩
theorem upper_sort (L : LogOk log) : SortsTo kfU (reportF log) (upperF log) := by
  obtain ⟨u1, u2⟩ := upper_sorted L
  have hlen : (reportF log).length = (presI log).length := by simp [reportF]
  have hkf : ∀ a ∈ reportF log, ∀ b ∈ reportF log, lexLt (kfU a) (kfU b) = ltU a b := fun a ha b hb => by
    obtain ⟨q, c, h1, _, _, e1⟩ := report_mem L ha
    obtain ⟨r, d, h2, _, _, e2⟩ := report_mem L hb
    rw [e1, e2]
    exact lex_U h1 h2
  rcases pres_length L with h | h
  · exact sorts_of (hlen.trans h) (by decide) goodK4 (report_nodup L) u1 u2 (report_tot L) hkf
  · exact sorts_of (hlen.trans h) (by decide) goodK5 (report_nodup L) u1 u2 (report_tot L) hkf
theorem low_sort (L : LogOk log) : SortsTo kfLow (lowRows (colsF log)) (laidF selLow (lowRows (colsF log))) := by
  have hkf : ∀ a ∈ lowRows (colsF log), ∀ b ∈ lowRows (colsF log), lexLt (kfLow a) (kfLow b) = ltL a b := fun a ha b hb => kfLow_lex a b
  rcases rows_length L (f := lowQ (colsF log)) with h | h
  · exact sorts_of h (by decide) goodK5 (low_nodup _) (low_laid _).1 (low_laid _).2 (low_tot _) hkf
  · exact sorts_of h (by decide) goodK6 (low_nodup _) (low_laid _).1 (low_laid _).2 (low_tot _) hkf
theorem high_sort (L : LogOk log) : SortsTo (fun r => r) (highRows (colsF log)) (laidF selHigh (highRows (colsF log))) := by
  have hkf : ∀ a ∈ highRows (colsF log), ∀ b ∈ highRows (colsF log), lexLt a b = ltH a b := fun a ha b hb => by
    obtain ⟨i, _, rfl⟩ := List.mem_map.mp ha
    obtain ⟨j, _, rfl⟩ := List.mem_map.mp hb
    exact row4_lex _ _
  rcases rows_length L (f := highQ (colsF log)) with h | h
  · exact sorts_of h (by decide) goodK5 (high_nodup _) (high_laid _).1 (high_laid _).2 (high_tot _) hkf
  · exact sorts_of h (by decide) goodK6 (high_nodup _) (high_laid _).1 (high_laid _).2 (high_tot _) hkf
end
end Mine
set_option maxHeartbeats 400000
namespace Mine
theorem ColOk.len {c : List Int} (h : ColOk c) : c.length ≤ 5 := by
  have hp : (five.filter fun a => c.contains a).Perm c := by
    refine (List.perm_ext_iff_of_nodup (List.Nodup.sublist List.filter_sublist (by decide)) h.nd).mpr fun a => ?_
    rw [List.mem_filter]
    constructor
    · rintro ⟨_, q⟩; simpa using q
    · intro q
      obtain ⟨h1, h2⟩ := h.lt a q
      refine ⟨?_, by simpa using q⟩
      have : a = 0 ∨ a = 1 ∨ a = 2 ∨ a = 3 ∨ a = 4 := by (first | lia | omega)
      simpa [five] using this
  rw [← hp.length_eq]
  exact Nat.le_trans (List.length_filter_le ..) (by decide)
section
variable {log : List Row}
theorem book_len (L : LogOk log) (f : Int) : (bookF log f).t.length ≤ 5 := by
  have := (col_is_ok L f).len
  unfold colF at this
  rwa [List.length_map, keys_length] at this
theorem made_get (L : LogOk log) {c : Int} (hc : 0 ≤ c) : (dget (madeL log) (letter c)).getD 0 = callsOf log c := made_val log L.ok hc
theorem made_item (L : LogOk log) {c : Int} (hc : c ∈ presI log) : dget (madeL log) (letter c) = some (callsOf log c) := by
  have h : letter c ∈ keysD (madeL log) := (made_keys_perm L).mem_iff.mpr (List.mem_map.mpr ⟨c, hc, rfl⟩)
  rw [dget_mem h, made_val log L.ok (presI_range L hc).1]
theorem made_len (L : LogOk log) : (madeL log).length ≤ 5 := by
  rw [made_length L]; rcases pres_length L with h | h <;> (first | lia | omega)
theorem report_len (L : LogOk log) : (reportF log).length ≤ 5 := by
  unfold reportF; rw [List.length_map]; rcases pres_length L with h | h <;> (first | lia | omega)
theorem report_two (L : LogOk log) : 2 ≤ (reportF log).length := by
  unfold reportF; rw [List.length_map]; rcases pres_length L with h | h <;> (first | lia | omega)
theorem fit_U (L : LogOk log) : ∀ a ∈ reportF log, ∀ b ∈ reportF log, Fit a b selU := fun a ha b hb p hp => by
  obtain ⟨q, c, _, _, _, rfl⟩ := report_mem L ha
  obtain ⟨r, d, _, _, _, rfl⟩ := report_mem L hb
  simp only [selU, List.mem_cons, List.not_mem_nil, or_false] at hp
  rcases hp with rfl | rfl <;> exact ⟨by decide, by decide, _, _, rfl, rfl, rfl⟩
theorem fit_4 {f : Nat → Int × Int × Int × Int} {l : List Nat} {sel : List (Int × Int)} (hs : sel = selLow ∨ sel = selHigh) : ∀ a ∈ l.map fun k => row4 (f k), ∀ b ∈ l.map fun k => row4 (f k), Fit a b sel := fun a ha b hb p hp => by
  obtain ⟨i, _, rfl⟩ := List.mem_map.mp ha
  obtain ⟨j, _, rfl⟩ := List.mem_map.mp hb
  rcases hs with rfl | rfl
  · simp only [selLow, List.mem_cons, List.not_mem_nil, or_false] at hp
    rcases hp with rfl | rfl | rfl | rfl <;> exact ⟨by decide, by decide, _, _, rfl, rfl, rfl⟩
  · simp only [selHigh, List.mem_cons, List.not_mem_nil, or_false] at hp
    rcases hp with rfl | rfl | rfl | rfl <;> exact ⟨by decide, by decide, _, _, rfl, rfl, rfl⟩
theorem upper_mem (L : LogOk log) {r : List Sc} (h : r ∈ upperF log) : ∃ q c, r = rowU q c := by
  obtain ⟨q, c, _, _, _, e⟩ := report_mem L ((upper_sorted L).1.mem_iff.mp h)
  exact ⟨q, c, e⟩
theorem upper_len (L : LogOk log) : (upperF log).length ≤ 5 := by rw [(upper_sorted L).1.length_eq]; exact report_len L
end
theorem book_of {log : List Row} {e : Ent} (h : e ∈ booksF log) : ∃ f, e = bookF log f := by
  unfold booksF at h
  obtain ⟨i, _, rfl⟩ := List.mem_map.mp h
  exact ⟨_, rfl⟩
theorem plain_map {α : Type} {f : α → D} : ∀ {l : List α}, (∀ a ∈ l, D.plain (f a) = true) → D.plain.plainL (l.map f) = true
  | [], _ => rfl
  | a :: l, h => by
    rw [List.map_cons]
    unfold D.plain.plainL
    rw [h a (.head _), plain_map fun b hb => h b (.tail _ hb)]; rfl
theorem depth_map_le {α : Type} {f : α → D} {k : Nat} : ∀ {l : List α}, (∀ a ∈ l, D.depth (f a) ≤ k) → D.depth.depthL (l.map f) ≤ k
  | [], _ => Nat.zero_le _
  | a :: l, h => by
    rw [List.map_cons]
    unfold D.depth.depthL
    exact Nat.max_le.mpr ⟨h a (.head _), depth_map_le fun b hb => h b (.tail _ hb)⟩
theorem plain_strs (l : List Str) : D.plain (.lst (strsD l)) = true := by
  unfold D.plain
  exact plain_map fun _ _ => rfl
theorem depth_strs (l : List Str) : D.depth (.lst (strsD l)) ≤ 10 := by
  unfold D.depth
  have : D.depth.depthL (strsD l) ≤ 1 := depth_map_le fun _ _ => Nat.le_refl _
  (first | lia | omega)
theorem depth_map {α : Type} {f : α → D} {l : List α} (h : ∀ a ∈ l, D.depth (f a) ≤ 10) : D.depth.depthL (l.map f) ≤ 20 := Nat.le_trans (depth_map_le h) (by decide)
theorem plain_sc (r : List Sc) : D.plain (tupS r) = true := by
  unfold tupS D.plain
  exact plain_map fun a _ => by cases a <;> rfl
theorem depth_sc (r : List Sc) : D.depth (tupS r) ≤ 10 := by
  unfold tupS D.depth
  have : D.depth.depthL (r.map Sc.toD) ≤ 1 := depth_map_le fun a _ => by cases a <;> exact Nat.le_refl _
  (first | lia | omega)
theorem strsD_map {α : Type} (f : α → Str) (l : List α) : strsD (l.map f) = l.map fun a => D.str (f a) := by simp [strsD]

section
variable {prog : Program} {w : World} {hB : Heap} {A : Around} {env : Env} {ρ : Nm} {μ : List (Str × Mu)}
theorem EvS.sortedK {p : Program} {loose : List Str} {mean : ExcName → Option Value} {mg mb : Str → Option Value} (G : Gd w.params hB) (T : Top p loose mean mg mb hB) {np pos kp lp : Pos} {e : Expr} {rows S : List (List Sc)} {kd : String}
    {params : Arguments} {body : Expr} {scope : Scope} {x : Str} {c tb : Addr} {ps : List (Nat × Nat)} {kf : List Sc → List Sc} {n : Nat}
    (hf : EvV prog w hB A env (.Name "sorted" np) (.builtin "sorted")) (he : Ev prog w hB A env ρ e (.lst (rows.map tupS)))
    (hcode : env.code = .ref c) (C : CodeHd hB c tb) (hnf : (ps.all fun q => !(q.1 == lp.line && q.2 == lp.col)) = true)
    (hdef : defaultsOf params env = ([], [])) (hcl : closureFor scope env = pure [])
    (hbind : ∀ pm ctv c' v, bindArgs (kla_fn "<lambda>" (env.qual ++ "<lambda>") params body scope [] pm (.ref c') ctv) ⟨[v], []⟩ = pure [(x, v)])
    (hx : scope.names.lookup x = some .local) (hxd : (x == ("__debug__" : Str)) = false) (hcell : ∀ y ∈ scope.names, y.2 ≠ .cell)
    (hR : Room (n + 3) A) (hkey : ∀ row ∈ rows, ∀ A env, Room n A → env.scope = scope → env.cells = [] → Ev prog w hB A env [(x, tupS row)] body (tupS (kf row)))
    (h2 : 2 ≤ rows.length) (h64 : rows.length < 64) (hal : ∀ a ∈ rows, ∀ b ∈ rows, alikeL (kf a) (kf b) = true) (hfst : ∀ a ∈ rows, ∃ c, (kf a)[0]? = some c ∧ ((kd = "int" ∧ c.alike (.i 0) = true) ∨ (kd = "str" ∧ c.alike (.s Str.empty) = true)))
    (hS : SortsTo kf rows S)
    (hse : starEach [e] env = [(false, eval e env)] := by rfl) (hsq : starEach (e :: []) env = (false, eval e env) :: starEach [] env := by rfl)
    (hco : scope.isCoroutine = false := by rfl) (hgen : scope.isGenerator = false := by rfl) (hk : scope.kind = .function := by rfl) :
    EvS prog w hB A env ρ ((anon, .tab ((tb, 0) :: ps)) :: μ) ((anon, .tab ((tb, 0) :: (ps ++ [(lp.line, lp.col)]))) :: μ) (.Call (.Name "sorted" np) [e] [⟨some "key", .Lambda params body scope lp, kp⟩] pos) (.lst (S.map tupS)) := by
  obtain ⟨r, a1, a2, a3, a4, a5⟩ := hS
  subst a5
  exact EvS.sortedKey G T hf he hcode C hnf hdef hcl hbind hx hxd hcell hR hkey h2 h64 hal hfst a1 a2 a3 (by (first | lia | omega)) hse hsq hco hgen hk
theorem Ev.sortedT {np pos : Pos} {e : Expr} {rows S : List (List Sc)} {kd : String} (hf : EvV prog w hB A env (.Name "sorted" np) (.builtin "sorted")) (he : Ev prog w hB A env ρ e (.lst (rows.map tupS)))
    (h2 : 2 ≤ rows.length) (h64 : rows.length < 64) (hal : ∀ a ∈ rows, ∀ b ∈ rows, alikeL a b = true) (hfst : ∀ a ∈ rows, ∃ c, a[0]? = some c ∧ ((kd = "int" ∧ c.alike (.i 0) = true) ∨ (kd = "str" ∧ c.alike (.s Str.empty) = true)))
    (hS : SortsTo (fun r => r) rows S) (hse : starEach [e] env = [(false, eval e env)] := by rfl) : Ev prog w hB A env ρ (.Call (.Name "sorted" np) [e] [] pos) (.lst (S.map tupS)) := by
  obtain ⟨r, a1, a2, a3, a4, a5⟩ := hS
  subst a5
  exact Ev.sortedTup hf he h2 h64 hal hfst a1 a2 a3 (by (first | lia | omega)) hse
end
theorem rows_four {f : Nat → Int × Int × Int × Int} {l : List Nat} {r : List Sc} (h : r ∈ l.map fun k => row4 (f k)) : ∃ q, r = row4 q := by
  obtain ⟨k, _, rfl⟩ := List.mem_map.mp h; exact ⟨_, rfl⟩
theorem plain_rows (l : List (List Sc)) : D.plain.plainL (l.map tupS) = true := plain_map fun r _ => plain_sc r
theorem depth_rows (l : List (List Sc)) : D.depth.depthL (l.map tupS) ≤ 20 := depth_map fun r _ => depth_sc r
theorem plain_low (l : List (List Int)) : D.plain.plainL (l.map lowF) = true := plain_map fun c _ => by unfold lowF; split <;> rfl
theorem depth_low (l : List (List Int)) : D.depth.depthL (l.map lowF) ≤ 20 := depth_map fun c _ => by unfold lowF; split <;> exact Nat.le_of_ble_eq_true rfl
theorem plain_high (l : List (List Int)) : D.plain.plainL (l.map highF) = true := plain_map fun c _ => by unfold highF; split <;> rfl
theorem depth_high (l : List (List Int)) : D.depth.depthL (l.map highF) ≤ 20 := depth_map fun c _ => by unfold highF; split <;> exact Nat.le_of_ble_eq_true rfl

section
variable {prog : Program} {w : World} {hB : Heap} {A : Around} {env : Env} {script : List Int}
/-- the block gives a datum; at the end the handles are so -/
def ExT (prog : Program) (w : World) (hB : Heap) (A : Around) (env : Env) (ρ : Nm) (μ : List (Str × Mu)) (ss : List Stmt) (d : D) (μ' : List (Str × Mu)) : Prop :=
  ∀ F V s E, StM w.params hB env ρ μ F V s → wpAny (model prog w) A (execs ss env) (fun f s' => ∃ V' v ρ' F', ExtS env F V s V' s' ∧ f = .ret v ∧ Rep w.params V' v d ∧ StM w.params hB env ρ' μ' F' V' s') E s
theorem ExT.cons {ρ ρ₁ : Nm} {μ μ₁ μ' : List (Str × Mu)} {st : Stmt} {rest : List Stmt} {d : D} (h : Ex1 prog w hB A env ρ μ st (.next ρ₁ μ₁)) (r : ExT prog w hB A env ρ₁ μ₁ rest d μ') : ExT prog w hB A env ρ μ (st :: rest) d μ' := fun F V s E x => by
  refine wpAny_execs_cons (wpAny_mono (h F V s E x) (fun f s' ⟨V', y, hf, F', hF', hst⟩ => ?_) fun _ _ e => e)
  subst hf
  exact wpAny_mono (r F' V' s' E hst) (fun f' s'' ⟨V'', v, ρ', F'', z, k⟩ => ⟨V'', v, ρ', F'', y.trans hF' z, k⟩) fun _ _ e => e
theorem ExT.consA {ρ : Nm} {μ μ' : List (Str × Mu)} {st : Stmt} {rest : List Stmt} {d' : D} (x : Str) (d : D) (h : Ex1 prog w hB A env ρ μ st (.next ((x, d) :: ρ) μ)) (r : ExT prog w hB A env ((x, d) :: ρ) μ rest d' μ') : ExT prog w hB A env ρ μ (st :: rest) d' μ' := ExT.cons h r
theorem ExT.return {ρ : Nm} {μ : List (Str × Mu)} {e : Expr} {pos : Pos} {rest : List Stmt} {d : D} (h : EvM prog w hB A env ρ μ e d) : ExT prog w hB A env ρ μ (.Return (some e) pos :: rest) d μ := fun F V s E x => by
  refine wpAny_execs_cons (wpAny_Return_some (wpAny_mono (h F V s E x) (fun v s' ⟨V', y, r⟩ => ?_) fun _ _ e => e))
  exact ⟨V', v, ρ, F, y.toS, rfl, r, x.ext y⟩
set_option maxHeartbeats 8000000 in
theorem ex_law {p : Program} {loose : List Str} {mean : ExcName → Option Value} {mg mb : Str → Option Value} (G : Gd w.params hB) (T : Top p loose mean mg mb hB) {n : Nat} {c tb : Addr} (hs : script.length ≤ 63) (hR : Room (n + 8) A)
    (hsc : env.scope = lawScope) (hcl : env.cells = cellsFrom (env.locals + 1) env.scope.names []) (hcode : env.code = .ref c) (C : CodeHd hB c tb) (hf : env.frame = some env.locals) (hfr : A.frames = some [env]) :
    ExT prog w hB A env [("script", .lst (intsD script))] [(anon, .tab [(tb, 0)])] lawBody (.bool true) [(anon, .tab [(tb, 0), (149, 35), (151, 35)])] := by
  have hfr' := hfr
  have hf' := hf
  have L := logOk script
  obtain ⟨scope, Lo, gl, cells, qual, func, code, frame, blt⟩ := env
  dsimp only at hsc hcl hcode hf
  subst hsc hcl hcode hf
  -- log
  refine ExT.cons (Ex1.assign (Ev.m (Ev.call (EvV.glob G (by with_unfolding_all rfl)) (kept_K G (by with_unfolding_all rfl)) (EvL.cons (Ev.name rfl) EvL.nil) hR (fn_law_log G hs))) (Storable.cell rfl (by decide) rfl) (hm_one (by decide))) ?_
  generalize logF script = log at L ⊢
  -- entries
  have hE : Fn prog w hB (n + 8) (.ref 95) [.lst (log.map rowD)] (.lst ((booksF log).map Ent.toD)) := by rw [← entries_books log L.ok]; exact fn_law_entries G (by have := L.len; (first | lia | omega)) L.ok
  refine ExT.cons (Ex1.assign (Ev.m (Ev.call (EvV.glob G (by with_unfolding_all rfl)) (kept_K G (by with_unfolding_all rfl)) (EvL.cons (Ev.name rfl) EvL.nil) hR hE)) ⟨by decide, .inl rfl⟩ (hm_one (by decide))) ?_
  refine ExT.cons (Ex1.assign (Ev.m (Ev.call (EvV.glob G (by with_unfolding_all rfl)) (kept_K G (by with_unfolding_all rfl)) (EvL.cons (Ev.name rfl) EvL.nil) hR (fn_law_books G (by have := L.len; (first | lia | omega)) L.ok))) ⟨by decide, .inl rfl⟩ (hm_one (by decide))) ?_
  have hM : Fn prog w hB (n + 8) (.ref 107) [.lst ((booksF log).map Ent.toD)] (.dct (madeL log)) := fn_law_made (e₀ := bookF log 0) (rest := [bookF log 1, bookF log 2, bookF log 3, bookF log 4, bookF log 5]) G (Nat.le_trans (book_len L 0) (by decide)) (fun e he => by
    simp only [List.mem_cons, List.not_mem_nil, or_false] at he
    rcases he with rfl | rfl | rfl | rfl | rfl <;> exact Nat.le_trans (book_len L _) (by decide)) (Nat.le_of_ble_eq_true rfl)
  refine ExT.cons (Ex1.assign (Ev.m (Ev.call (EvV.glob G (by with_unfolding_all rfl)) (kept_K G (by with_unfolding_all rfl)) (EvL.cons (Ev.name rfl) EvL.nil) hR hM)) (Storable.cell rfl (by decide) rfl) (hm_one (by decide))) ?_
  -- entries and books are alike
  have hbl : (booksF log).length = 6 := rfl
  refine ExT.cons (Ex1.ifF (Tst.m (Tst.or2 (Tst.cmp (d₁ := .lst ((booksF log).map Ent.toD)) (d₂ := .lst ((booksF log).map Ent.toD)) (Ev.name rfl) (Ev.name rfl) (op_ne_lst hR rfl (Nat.le_of_ble_eq_true rfl)))
    (Tst.cmp (d₁ := .lst ((booksF log).map fun e => .lst (strsD (e.t.map (·.1))))) (d₂ := .lst ((booksF log).map fun e => .lst (strsD (e.t.map (·.1))))) ?_ ?_ (op_ne_lst hR ?_ ?_)))) Ex.nil) ?_
  · exact Ev.comp (ρ₀ := []) (Ev.name rfl) (Itr.lst hR.handled) (ScOk.of rfl (by decide) rfl) rho_nil fun ce hce => Gath.one (.inl ⟨_, _, rfl⟩) (by rw [List.length_map, hbl]; decide)
      (Comp1.map fun e he => ⟨_, asg_anon (hce.sto (by decide) rfl) (by decide), rfl, Ev.call (EvV.blt G (by with_unfolding_all rfl) rfl (hx := hce.glo rfl)) kept_type (EvL.cons (Ev.sub (Ev.name rfl) Ev.int (op_item_tup (by decide) (by decide) (d := .dct e.t) rfl)) EvL.nil) hR (fn_list_dct (by
        obtain ⟨f, rfl⟩ := book_of he
        have := book_len L f; (first | lia | omega)))⟩)
  · exact Ev.comp (ρ₀ := []) (Ev.name rfl) (Itr.lst hR.handled) (ScOk.of rfl (by decide) rfl) rho_nil fun ce hce => Gath.one (.inl ⟨_, _, rfl⟩) (by rw [List.length_map, hbl]; decide)
      (Comp1.map fun e he => ⟨_, asg_anon (hce.sto (by decide) rfl) (by decide), rfl, Ev.call (EvV.blt G (by with_unfolding_all rfl) rfl (hx := hce.glo rfl)) kept_type (EvL.cons (Ev.sub (Ev.name rfl) Ev.int (op_item_tup (by decide) (by decide) (d := .dct e.t) rfl)) EvL.nil) hR (fn_list_dct (by
        obtain ⟨f, rfl⟩ := book_of he
        have := book_len L f; (first | lia | omega)))⟩)
  · exact plain_map fun e _ => plain_strs _
  · exact depth_map fun e _ => depth_strs _
  -- calls
  have hcalls : D.lst (intsD (callsF log)) = D.lst ((List.range 5).map fun i : Nat => D.int (callsOf log (Int.ofNat i))) := rfl
  have hll := L.len
  refine ExT.cons (ρ₁ := ("calls", .lst (intsD (callsF log))) :: _) (Ex1.assignComp (ρ₀ := [("log", .lst (log.map rowD))]) (rs := (List.range 5).map fun i : Nat => D.int (callsOf log (Int.ofNat i))) rfl ⟨by decide, .inl rfl⟩ (hm_one (by decide)) (Ev.call (EvV.blt G (by with_unfolding_all rfl) rfl) kept_type (EvL.cons Ev.int EvL.nil) hR fn_range) (Itr.rng hR.handled (n := 5) (by decide)) (ScOk.of rfl (by decide) rfl) (rho_add rfl rfl rfl (by decide) rho_nil)
    fun ce hce => Gath.one (.inl ⟨_, _, rfl⟩) (by rw [List.length_map, List.length_range]; decide) (Comp1.map (g := fun i : Nat => D.int (Int.ofNat i)) fun i hi => ⟨_, asg_anon (hce.stoC (by decide) rfl) (by decide), rfl, Ev.call (EvV.blt G (by with_unfolding_all rfl) rfl (hx := hce.glo rfl)) kept_blt (EvL.cons (d := .lst (intsD ((log.filter fun r => r.2.1 == Int.ofNat i).map fun r => r.2.2))) ?_ EvL.nil) hR fn_sum⟩)) ?_
  · rw [intsD_map]
    exact Ev.comp (ρ₀ := [("caller", .int (Int.ofNat i))]) (Ev.name rfl) (Itr.lst hR.handled) (ScOk.nest hce rfl (by decide) rfl) (rho_addC hce rfl rfl rfl rho_nil) fun ce2 hce2 => Gath.one (.inl ⟨_, _, rfl⟩) (by rw [List.length_map]; exact Nat.le_trans (List.length_filter_le ..) (by (first | lia | omega)))
      (Comp1.filter (g := rowD) fun r hr => ⟨_, asg_anon (hce2.sto (by decide) rfl) (by decide), rfl, TstL.one (Tst.cmp (Ev.sub (Ev.name rfl) Ev.int (op_item_lst (by decide) (by decide) (d := .int r.2.1) rfl)) (Ev.name rfl) op_eq), fun _ => Ev.sub (Ev.name rfl) Ev.int (op_item_lst (by decide) (by decide) (d := .int r.2.2) rfl)⟩)
  -- made tells the same
  have hml := made_len L
  refine ExT.cons (Ex1.ifF (Tst.m (Tst.or2 (Tst.cmp (d₁ := .lst (intsD (callsF log))) (d₂ := .lst (intsD (callsF log))) ?_ (Ev.name rfl) (op_ne_lst hR rfl (Nat.le_of_ble_eq_true rfl)))
    (Tst.cmp (d₁ := .int (madeL log).length) (d₂ := .int (5 - ((callsF log).count 0 : Nat))) (b := false) (Ev.call (EvV.blt G (by with_unfolding_all rfl) rfl) kept_blt (EvL.cons (Ev.name rfl) EvL.nil) hR (fn_len_dct (by (first | lia | omega))))
      (Ev.bin Ev.int (Ev.meth F.plainAttrs_list F.slot_list_count F.type_list_count ht_lst (Ev.name rfl) (EvL.cons Ev.int EvL.nil) hR fn_count) op_sub) ?_))) Ex.nil) ?_
  · rw [hcalls]
    refine Ev.comp (ρ₀ := [("made", .dct (madeL log))]) Ev.str (Itr.str hR.handled (by decide +kernel)) (ScOk.of rfl (by decide) rfl) (rho_add rfl rfl rfl (by decide) rho_nil) fun ce hce => Gath.one (.inl ⟨_, _, rfl⟩) (by rw [List.length_map, List.length_range]; decide) ?_
    refine Comp1.map (items := List.range 5) (g := fun i : Nat => D.str (letter (Int.ofNat i))) fun i hi => ⟨_, asg_anon (hce.sto (by decide) rfl) (by decide), rfl, ?_⟩
    have hg : (dget (madeL log) (letter (Int.ofNat i))).getD 0 = callsOf log (Int.ofNat i) := made_get L (by show (0 : Int) ≤ (i : Int); (first | lia | omega))
    rw [← hg]
    exact Ev.meth F.plainAttrs_dict F.slot_dict_get F.type_dict_get ht_dct (Ev.name rfl) (EvL.cons (Ev.name rfl) (EvL.cons Ev.int EvL.nil)) hR fn_dict_get
  · have hmc := made_count L
    have : (((madeL log).length : Int) != 5 - ((callsF log).count 0 : Nat)) = false := by rw [hmc]; simp
    rw [← this]; exact op_ne
  -- report
  have hrl := report_len L
  have hpl : (presI log).length ≤ 5 := by rcases pres_length L with h | h <;> (first | lia | omega)
  refine ExT.consA "report" (.lst ((reportF log).map tupS)) ?rep ?_
  case rep =>
    have hrep : (reportF log).map tupS = (presI log).map fun c => D.tup [.int (callsOf log c), .str (letter c)] := by unfold reportF; rw [List.map_map]; rfl
    rw [hrep]
    refine Ex1.assignComp (ρ₀ := [("made", .dct (madeL log))]) rfl ⟨by decide, .inl rfl⟩ (hm_one (by decide)) (d := .lst (strsD ((presI log).map letter))) (Ev.call (EvV.blt G (by with_unfolding_all rfl) rfl) kept_blt (EvL.cons (Ev.name rfl) EvL.nil) hR (fn_sorted_dct (by (first | lia | omega)) (names_unique L))) (Itr.lst hR.handled) (ScOk.of rfl (by decide) rfl) (rho_add rfl rfl rfl (by decide) rho_nil) fun ce hce => ?_
    rw [strsD_map]
    exact Gath.one (.inl ⟨_, _, rfl⟩) (by rw [List.length_map]; (first | lia | omega)) (Comp1.map fun c hc => ⟨_, asg_anon (hce.sto (by decide) rfl) (by decide), rfl, Ev.tuple (EvL.cons (Ev.sub (Ev.name rfl) (Ev.name rfl) (op_item_dct (made_item L hc))) (EvL.cons (Ev.name rfl) EvL.nil)) (Nat.le_of_ble_eq_true rfl)⟩)
  -- upper
  have one2 : ∀ {a b : Int}, [D.int a, D.int b].length ≤ 1000 := Nat.le_of_ble_eq_true rfl
  refine ExT.consA "upper" (.lst ((upperF log).map tupS)) ?up ?_
  case up =>
    refine Ex1.assign (Ev.m (Ev.call (EvV.glob G (by with_unfolding_all rfl)) (kept_K G (by with_unfolding_all rfl)) (EvL.cons (d := .cmp selU) ?_ (EvL.cons (Ev.name rfl) EvL.nil)) hR (fn_law_laid G (by (first | lia | omega)) (fit_U L)))) ⟨by decide, .inl rfl⟩ (hm_one (by decide))
    exact Ev.call (EvV.glob G (by with_unfolding_all rfl)) (kept_K G (by with_unfolding_all rfl)) (EvL.cons (d := selD selU) (Ev.list (EvL.cons (Ev.tuple (EvL.cons Ev.int (EvL.cons (Ev.neg Ev.int) EvL.nil)) one2) (EvL.cons (Ev.tuple (EvL.cons Ev.int (EvL.cons Ev.int EvL.nil)) one2) EvL.nil)) (Nat.le_of_ble_eq_true rfl)) EvL.nil) hR (fn_TupleComp G)
  -- heads
  have hul := upper_len L
  refine ExT.consA "heads" (.lst (strsD (headsF log))) ?hd ?_
  case hd =>
    have hh : strsD (headsF log) = (upperF log).map fun r => D.str (nameU r) := strsD_map nameU (upperF log)
    rw [hh]
    exact Ex1.assign (Ev.m (Ev.comp (ρ₀ := []) (Ev.name rfl) (Itr.lst hR.handled) (ScOk.of rfl (by decide) rfl) rho_nil fun ce hce => Gath.one (.inl ⟨_, _, rfl⟩) (by rw [List.length_map]; (first | lia | omega))
      (Comp1.map fun r hr => ⟨_, asg_anon (hce.sto (by decide) rfl) (by decide), rfl, by
        obtain ⟨q, c, rfl⟩ := upper_mem L hr
        exact Ev.sub (Ev.name rfl) Ev.int (op_item_tup (by decide) (by decide) rfl)⟩))) (Storable.cell rfl (by decide) rfl) (hm_one (by decide))
  -- columns
  have hhl := heads_length L
  refine ExT.consA "columns" (.lst ((colsF log).map fun c => .lst (intsD c))) ?co ?_
  case co =>
    have hc : ((colsF log).map fun c => D.lst (intsD c)) = (booksF log).map fun e => D.lst (intsD (colF log e)) := by unfold colsF; rw [List.map_map]; rfl
    rw [hc]
    refine Ex1.assign (Ev.m (Ev.comp (ρ₀ := [("heads", .lst (strsD (headsF log)))]) (Ev.name rfl) (Itr.lst hR.handled) (ScOk.of rfl (by decide) rfl) (rho_add rfl rfl rfl (by decide) rho_nil) fun ce hce => Gath.one (.inl ⟨_, _, rfl⟩) (by rw [List.length_map, hbl]; decide)
      (Comp1.map fun e he => ⟨_, asg_anon (hce.sto (by decide) rfl) (by decide), rfl, ?_⟩))) (Storable.cell rfl (by decide) rfl) (hm_one (by decide))
    obtain ⟨f, rfl⟩ := book_of he
    have hcl : D.lst (intsD (colF log (bookF log f))) = .lst ((keysD (bookF log f).t).map fun k => D.int (((headsF log).idxOf k : Nat) : Int)) := by unfold colF; rw [intsD_map]
    rw [hcl]
    refine Ev.comp (ρ₀ := [("heads", .lst (strsD (headsF log)))]) (Ev.sub (Ev.name rfl) Ev.int (op_item_tup (by decide) (by decide) (d := .dct (bookF log f).t) rfl)) (Itr.dct hR.handled) (ScOk.nest hce rfl (by decide) rfl) (rho_addF hce rfl rfl rfl rho_nil) fun ce2 hce2 => Gath.one (.inl ⟨_, _, rfl⟩) (by rw [List.length_map, keys_length]; have := book_len L f; (first | lia | omega))
      (Comp1.map (g := D.str) fun k hk => ⟨_, asg_anon (hce2.sto (by decide) rfl) (by decide), rfl, Ev.meth F.plainAttrs_list F.slot_list_index F.type_list_index ht_lst (Ev.name rfl) (EvL.cons (Ev.name rfl) EvL.nil) hR (fn_index_str (heads_mem L hk) (by (first | lia | omega)))⟩)
  -- lows, highs
  have hco := cols_ok L
  have hcn : (colsF log).length = 6 := cols_length log
  have hc64 : ∀ c ∈ colsF log, c.length < 64 := fun c hc => by have := (hco c hc).len; (first | lia | omega)
  refine ExT.consA "lows" (.lst ((colsF log).map lowF)) ?lo ?_
  case lo =>
    exact Ex1.assign (Ev.m (Ev.compF (ρ₀ := []) (Ev.name rfl) (Itr.lst hR.handled) (ScOk.of rfl (by decide) rfl) rho_nil fun ce hce hcf => Gath.one (.inl ⟨_, _, rfl⟩) (by rw [List.length_map, hcn]; decide)
      (Comp1.map fun c hc => ⟨_, asg_anon (hce.sto (by decide) rfl) (by decide), rfl, Ev.low G T (hce.glo rfl) (Ev.name rfl) (hc64 c hc) hR hfr' (by show lawScope.kind ≠ .module; decide) rfl hcf⟩))) (Storable.cell rfl (by decide) rfl) (hm_one (by decide))
  refine ExT.consA "highs" (.lst ((colsF log).map highF)) ?hi ?_
  case hi =>
    exact Ex1.assign (Ev.m (Ev.compF (ρ₀ := []) (Ev.name rfl) (Itr.lst hR.handled) (ScOk.of rfl (by decide) rfl) rho_nil fun ce hce hcf => Gath.one (.inl ⟨_, _, rfl⟩) (by rw [List.length_map, hcn]; decide)
      (Comp1.map fun c hc => ⟨_, asg_anon (hce.sto (by decide) rfl) (by decide), rfl, Ev.high G T (hce.glo rfl) (Ev.name rfl) (hc64 c hc) hR hfr' (by show lawScope.kind ≠ .module; decide) rfl hcf⟩))) (Storable.cell rfl (by decide) rfl) (hm_one (by decide))
  -- called
  have hcget : ∀ k : Nat, k < 6 → ((colsF log).map fun c => D.lst (intsD c))[(Int.ofNat k).toNat]? = some (.lst (intsD (colAt (colsF log) (k : Int)))) := fun k hk => by
    have hlt : k < (colsF log).length := by (first | lia | omega)
    show ((colsF log).map fun c => D.lst (intsD c))[k]? = _
    rw [List.getElem?_map, List.getElem?_eq_getElem hlt]
    simp [colAt, hlt]
  have hk0 : ∀ k : Nat, (0 : Int) ≤ Int.ofNat k := fun k => by show (0 : Int) ≤ (k : Int); (first | lia | omega)
  have hk63 : ∀ k : Nat, k < 6 → Int.ofNat k < 2 ^ 63 := fun k hk => by show (k : Int) < 2 ^ 63; (first | lia | omega)
  refine ExT.consA "called" (.lst ((calledF (colsF log)).map fun k => D.int (Int.ofNat k))) ?ca ?_
  case ca =>
    refine Ex1.assignComp (ρ₀ := [("columns", .lst ((colsF log).map fun c => .lst (intsD c)))]) rfl ⟨by decide, .inl rfl⟩ (hm_one (by decide)) (Ev.call (EvV.blt G (by with_unfolding_all rfl) rfl) kept_type (EvL.cons Ev.int EvL.nil) hR fn_range) (Itr.rng hR.handled (n := 6) (by decide)) (ScOk.of rfl (by decide) rfl) (rho_add rfl rfl rfl (by decide) rho_nil)
      fun ce hce => Gath.one (.inl ⟨_, _, rfl⟩) (by rw [List.length_map]; exact Nat.le_trans (List.length_filter_le ..) (by rw [List.length_range]; decide)) (Comp1.filter (g := fun i : Nat => D.int (Int.ofNat i)) fun k hk => ⟨_, asg_anon (hce.sto (by decide) rfl) (by decide), rfl, TstL.one ?_, fun _ => Ev.name rfl⟩)
    have hk6 : k < 6 := List.mem_range.mp hk
    refine Tst.cmp (Ev.sub (Ev.name rfl) (Ev.name rfl) (op_item_lst (hk0 k) (hk63 k hk6) (hcget k hk6))) (Ev.list EvL.nil (by decide)) ?_
    cases hq : colAt (colsF log) (k : Int) with
    | nil => exact op_ne_lst hR rfl (by decide)
    | cons a l => exact op_ne_nil hR
  -- by_low, by_high
  have hcall : ∀ k ∈ calledF (colsF log), k < 6 ∧ colAt (colsF log) (k : Int) ≠ [] := fun k hk => ⟨List.mem_range.mp (List.mem_filter.mp hk).1, called_ok hk⟩
  have hcl10 : (calledF (colsF log)).length ≤ 6 := Nat.le_trans (List.length_filter_le ..) (by rw [List.length_range]; decide)
  have hlowget : ∀ k : Nat, k < 6 → colAt (colsF log) (k : Int) ≠ [] → ((colsF log).map lowF)[(Int.ofNat k).toNat]? = some (.int (lowV (colAt (colsF log) (k : Int)))) := fun k hk hne => by
    have hlt : k < (colsF log).length := by (first | lia | omega)
    have e : colAt (colsF log) (k : Int) = (colsF log)[k] := by simp [colAt, hlt]
    show ((colsF log).map lowF)[k]? = _
    rw [List.getElem?_map, List.getElem?_eq_getElem hlt]
    rw [e] at hne ⊢
    show some (lowF _) = _
    unfold lowF lowV
    rw [if_neg hne]
  have hhighget : ∀ k : Nat, k < 6 → colAt (colsF log) (k : Int) ≠ [] → ((colsF log).map highF)[(Int.ofNat k).toNat]? = some (.int (highV (colAt (colsF log) (k : Int)))) := fun k hk hne => by
    have hlt : k < (colsF log).length := by (first | lia | omega)
    have e : colAt (colsF log) (k : Int) = (colsF log)[k] := by simp [colAt, hlt]
    show ((colsF log).map highF)[k]? = _
    rw [List.getElem?_map, List.getElem?_eq_getElem hlt]
    rw [e] at hne ⊢
    show some (highF _) = _
    unfold highF highV
    rw [if_neg hne]
  have hlen10 : ∀ k : Int, (colAt (colsF log) k).length ≤ 1000000 := fun k => by have := (col_ok hco (k := k)).len; (first | lia | omega)
  refine ExT.consA "by_low" (.lst ((lowRows (colsF log)).map tupS)) ?bl ?_
  case bl =>
    have hr : (lowRows (colsF log)).map tupS = (calledF (colsF log)).map fun k : Nat => D.tup [.int (lowV (colAt (colsF log) (k : Int))), .int (((colAt (colsF log) (k : Int)).length : Int).fmod 2), .int (mxV (colAt (colsF log) (k : Int))), .int (Int.ofNat k)] := by unfold lowRows; rw [List.map_map]; rfl
    rw [hr]
    refine Ex1.assignComp (ρ₀ := [("columns", .lst ((colsF log).map fun c => .lst (intsD c))), ("lows", .lst ((colsF log).map lowF))]) rfl ⟨by decide, .inl rfl⟩ (hm_one (by decide)) (Ev.name rfl) (Itr.lst hR.handled) (ScOk.of rfl (by decide) rfl) (rho_add rfl rfl rfl (by decide) (rho_add rfl rfl rfl (by decide) rho_nil))
      fun ce hce => Gath.one (.inl ⟨_, _, rfl⟩) (by rw [List.length_map]; (first | lia | omega)) (Comp1.map fun k hk => ⟨_, asg_anon (hce.sto (by decide) rfl) (by decide), rfl, ?_⟩)
    obtain ⟨hk6, hne⟩ := hcall k hk
    have hmx := mx_ok hne
    exact Ev.tuple (EvL.cons (Ev.sub (Ev.name rfl) (Ev.name rfl) (op_item_lst (hk0 k) (hk63 k hk6) (hlowget k hk6 hne))) (EvL.cons (Ev.bin (Ev.call (EvV.blt G (by with_unfolding_all rfl) rfl (hx := hce.glo rfl)) kept_blt (EvL.cons (Ev.sub (Ev.name rfl) (Ev.name rfl) (op_item_lst (hk0 k) (hk63 k hk6) (hcget k hk6))) EvL.nil) hR (fn_len_map (g := D.int) (hlen10 k))) Ev.int (op_mod (by decide)))
      (EvL.cons (Ev.call (EvV.blt G (by with_unfolding_all rfl) rfl (hx := hce.glo rfl)) kept_blt (EvL.cons (Ev.sub (Ev.name rfl) (Ev.name rfl) (op_item_lst (hk0 k) (hk63 k hk6) (hcget k hk6))) EvL.nil) hR (fn_max hmx.1 hmx.2)) (EvL.cons (Ev.name rfl) EvL.nil)))) (Nat.le_of_ble_eq_true rfl)
  refine ExT.consA "by_high" (.lst ((highRows (colsF log)).map tupS)) ?bh ?_
  case bh =>
    have hr : (highRows (colsF log)).map tupS = (calledF (colsF log)).map fun k : Nat => D.tup [.int (highV (colAt (colsF log) (k : Int))), .int (((colAt (colsF log) (k : Int)).length : Int).fmod 2), .int (mnV (colAt (colsF log) (k : Int))), .int (Int.ofNat k)] := by unfold highRows; rw [List.map_map]; rfl
    rw [hr]
    refine Ex1.assignComp (ρ₀ := [("columns", .lst ((colsF log).map fun c => .lst (intsD c))), ("highs", .lst ((colsF log).map highF))]) rfl ⟨by decide, .inl rfl⟩ (hm_one (by decide)) (Ev.name rfl) (Itr.lst hR.handled) (ScOk.of rfl (by decide) rfl) (rho_add rfl rfl rfl (by decide) (rho_add rfl rfl rfl (by decide) rho_nil))
      fun ce hce => Gath.one (.inl ⟨_, _, rfl⟩) (by rw [List.length_map]; (first | lia | omega)) (Comp1.map fun k hk => ⟨_, asg_anon (hce.sto (by decide) rfl) (by decide), rfl, ?_⟩)
    obtain ⟨hk6, hne⟩ := hcall k hk
    have hmn := mn_ok hne
    exact Ev.tuple (EvL.cons (Ev.sub (Ev.name rfl) (Ev.name rfl) (op_item_lst (hk0 k) (hk63 k hk6) (hhighget k hk6 hne))) (EvL.cons (Ev.bin (Ev.call (EvV.blt G (by with_unfolding_all rfl) rfl (hx := hce.glo rfl)) kept_blt (EvL.cons (Ev.sub (Ev.name rfl) (Ev.name rfl) (op_item_lst (hk0 k) (hk63 k hk6) (hcget k hk6))) EvL.nil) hR (fn_len_map (g := D.int) (hlen10 k))) Ev.int (op_mod (by decide)))
      (EvL.cons (Ev.call (EvV.blt G (by with_unfolding_all rfl) rfl (hx := hce.glo rfl)) kept_blt (EvL.cons (Ev.sub (Ev.name rfl) (Ev.name rfl) (op_item_lst (hk0 k) (hk63 k hk6) (hcget k hk6))) EvL.nil) hR (fn_min hmn.1 hmn.2)) (EvL.cons (Ev.name rfl) EvL.nil)))) (Nat.le_of_ble_eq_true rfl)
  -- first, second
  have four : ∀ {a b c d : D}, [a, b, c, d].length ≤ 1000 := Nat.le_of_ble_eq_true rfl
  have hlr10 : (lowRows (colsF log)).length ≤ 6 := by unfold lowRows; rw [List.length_map]; exact hcl10
  have hhr10 : (highRows (colsF log)).length ≤ 6 := by unfold highRows; rw [List.length_map]; exact hcl10
  refine ExT.consA "first" (.lst ((laidF selLow (lowRows (colsF log))).map tupS)) ?fi ?_
  case fi =>
    refine Ex1.assign (Ev.m (Ev.call (EvV.glob G (by with_unfolding_all rfl)) (kept_K G (by with_unfolding_all rfl)) (EvL.cons (d := .cmp selLow) ?_ (EvL.cons (Ev.name rfl) EvL.nil)) hR (fn_law_laid G (by (first | lia | omega)) (fit_4 (.inl rfl))))) ⟨by decide, .inl rfl⟩ (hm_one (by decide))
    exact Ev.call (EvV.glob G (by with_unfolding_all rfl)) (kept_K G (by with_unfolding_all rfl)) (EvL.cons (d := selD selLow) (Ev.list (EvL.cons (Ev.tuple (EvL.cons Ev.int (EvL.cons Ev.int EvL.nil)) one2) (EvL.cons (Ev.tuple (EvL.cons Ev.int (EvL.cons (Ev.neg Ev.int) EvL.nil)) one2) (EvL.cons (Ev.tuple (EvL.cons Ev.int (EvL.cons Ev.int EvL.nil)) one2) (EvL.cons (Ev.tuple (EvL.cons Ev.int (EvL.cons Ev.int EvL.nil)) one2) EvL.nil)))) four) EvL.nil) hR (fn_TupleComp G)
  refine ExT.consA "second" (.lst ((laidF selHigh (highRows (colsF log))).map tupS)) ?se ?_
  case se =>
    refine Ex1.assign (Ev.m (Ev.call (EvV.glob G (by with_unfolding_all rfl)) (kept_K G (by with_unfolding_all rfl)) (EvL.cons (d := .cmp selHigh) ?_ (EvL.cons (Ev.name rfl) EvL.nil)) hR (fn_law_laid G (by (first | lia | omega)) (fit_4 (.inr rfl))))) ⟨by decide, .inl rfl⟩ (hm_one (by decide))
    exact Ev.call (EvV.glob G (by with_unfolding_all rfl)) (kept_K G (by with_unfolding_all rfl)) (EvL.cons (d := selD selHigh) (Ev.list (EvL.cons (Ev.tuple (EvL.cons Ev.int (EvL.cons Ev.int EvL.nil)) one2) (EvL.cons (Ev.tuple (EvL.cons Ev.int (EvL.cons Ev.int EvL.nil)) one2) (EvL.cons (Ev.tuple (EvL.cons Ev.int (EvL.cons Ev.int EvL.nil)) one2) (EvL.cons (Ev.tuple (EvL.cons Ev.int (EvL.cons Ev.int EvL.nil)) one2) EvL.nil)))) four) EvL.nil) hR (fn_TupleComp G)
  -- the lines
  have hlw := low_well hco
  have hhw := high_well hco
  have hc10 : ∀ c ∈ colsF log, c.length ≤ 10 := fun c hc => by have := (hco c hc).len; (first | lia | omega)
  have hwell : ∀ {S : List (List Sc)}, WellOk (colsF log) S → Fn prog w hB (n + 8) (.ref 148) [.lst ((colsF log).map fun c => .lst (intsD c)), .lst (S.map tupS)] (.bool true) := fun {S} W => by
    have := fn_law_well (prog := prog) G (n := n + 4) hcn hc10 W.len W.h3 W.hok
    rwa [W.tot] at this
  refine ExT.cons (Ex1.ifF (Tst.m (Tst.or2 (Tst.not (b := true) (Tst.call (Ev.call (EvV.glob G (by with_unfolding_all rfl)) (kept_K G (by with_unfolding_all rfl)) (EvL.cons (Ev.name rfl) (EvL.cons (Ev.name rfl) EvL.nil)) hR (hwell hlw))))
    (Tst.not (b := true) (Tst.call (Ev.call (EvV.glob G (by with_unfolding_all rfl)) (kept_K G (by with_unfolding_all rfl)) (EvL.cons (Ev.name rfl) (EvL.cons (Ev.name rfl) EvL.nil)) hR (hwell hhw)))))) Ex.nil) ?_
  -- the upper row, sorted
  refine ExT.cons (Ex1.ifFS (μ' := [(anon, .tab [(tb, 0), (149, 35)])]) (TstS.cmp (d₁ := .lst ((upperF log).map tupS)) (d₂ := .lst ((upperF log).map tupS)) (Ev.name rfl) ?_ (op_ne_lst hR (plain_rows _) (depth_rows _))) Ex.nil) ?_
  · refine EvS.sortedK (n := n + 5) (ps := []) (kf := kfU) (kd := "int") (x := "row") G T (EvV.blt G (by with_unfolding_all rfl) rfl) (rows := reportF log) (Ev.name rfl) rfl C rfl rfl rfl (fun _ _ _ _ => rfl) rfl (by decide) (by decide) hR (fun row hrow A env hRl hsl hcl => ?_) (report_two L) (by (first | lia | omega)) (fun a ha b hb => ?_) (fun a ha => ?_) (upper_sort L)
    · obtain ⟨q, c, _, _, _, rfl⟩ := report_mem L hrow
      exact Ev.tuple (EvL.cons (Ev.neg (Ev.sub (Ev.name rfl) Ev.int (op_item_tup (by decide) (by decide) rfl))) (EvL.cons (Ev.sub (Ev.name rfl) Ev.int (op_item_tup (by decide) (by decide) rfl)) EvL.nil)) (Nat.le_of_ble_eq_true rfl)
    · obtain ⟨q, c, _, _, _, rfl⟩ := report_mem L ha
      obtain ⟨r, d, _, _, _, rfl⟩ := report_mem L hb
      rfl
    · obtain ⟨q, c, _, _, _, rfl⟩ := report_mem L ha
      exact ⟨_, rfl, .inl ⟨rfl, rfl⟩⟩
  -- the lower rows, sorted
  have hl2 : 2 ≤ (lowRows (colsF log)).length := by rcases rows_length L (f := lowQ (colsF log)) with h | h <;> (unfold lowRows; (first | lia | omega))
  have hh2 : 2 ≤ (highRows (colsF log)).length := by rcases rows_length L (f := highQ (colsF log)) with h | h <;> (unfold highRows; (first | lia | omega))
  refine ExT.cons (Ex1.ifFS (μ' := [(anon, .tab [(tb, 0), (149, 35), (151, 35)])]) (TstS.or2 (TstS.cmp (d₁ := .lst ((laidF selLow (lowRows (colsF log))).map tupS)) (d₂ := .lst ((laidF selLow (lowRows (colsF log))).map tupS)) (Ev.name rfl) ?_ (op_ne_lst hR (plain_rows _) (depth_rows _)))
    (Tst.cmp (d₁ := .lst ((laidF selHigh (highRows (colsF log))).map tupS)) (d₂ := .lst ((laidF selHigh (highRows (colsF log))).map tupS)) (Ev.name rfl) ?_ (op_ne_lst hR (plain_rows _) (depth_rows _)))) Ex.nil) ?_
  · refine EvS.sortedK (n := n + 5) (ps := [(149, 35)]) (kf := kfLow) (kd := "int") (x := "row") G T (EvV.blt G (by with_unfolding_all rfl) rfl) (rows := lowRows (colsF log)) (Ev.name rfl) rfl C rfl rfl rfl (fun _ _ _ _ => rfl) rfl (by decide) (by decide) hR (fun row hrow A env hRl hsl hcl => ?_) hl2 (by (first | lia | omega)) (fun a ha b hb => ?_) (fun a ha => ?_) (low_sort L)
    · obtain ⟨q, rfl⟩ := rows_four hrow
      exact Ev.tuple (EvL.cons (Ev.sub (Ev.name rfl) Ev.int (op_item_tup (by decide) (by decide) rfl)) (EvL.cons (Ev.neg (Ev.sub (Ev.name rfl) Ev.int (op_item_tup (by decide) (by decide) rfl))) (EvL.cons (Ev.sub (Ev.name rfl) Ev.int (op_item_tup (by decide) (by decide) rfl)) (EvL.cons (Ev.sub (Ev.name rfl) Ev.int (op_item_tup (by decide) (by decide) rfl)) EvL.nil)))) (Nat.le_of_ble_eq_true rfl)
    · rfl
    · exact ⟨_, rfl, .inl ⟨rfl, rfl⟩⟩
  · refine Ev.sortedT (kd := "int") (EvV.blt G (by with_unfolding_all rfl) rfl) (rows := highRows (colsF log)) (Ev.name rfl) hh2 (by (first | lia | omega)) (fun a ha b hb => ?_) (fun a ha => ?_) (high_sort L)
    · obtain ⟨q, rfl⟩ := rows_four ha
      obtain ⟨r, rfl⟩ := rows_four hb
      rfl
    · obtain ⟨q, rfl⟩ := rows_four ha
      exact ⟨_, rfl, .inl ⟨rfl, rfl⟩⟩
  -- lows and highs by their places
  have hc100 : ∀ c ∈ colsF log, c.length ≤ 100 := fun c hc => by have := (hco c hc).len; (first | lia | omega)
  refine ExT.cons (Ex1.ifF (Tst.m (Tst.cmp (d₁ := .lst ((colsF log).map lowF)) (d₂ := .lst ((colsF log).map lowF)) (Ev.name rfl) ?_ (op_ne_lst hR (plain_low _) (depth_low _)))) Ex.nil) ?_
  · exact Ev.comp (ρ₀ := []) (Ev.name rfl) (Itr.lst hR.handled) (ScOk.of rfl (by decide) rfl) rho_nil fun ce hce => Gath.one (.inl ⟨_, _, rfl⟩) (by rw [List.length_map, hcn]; decide)
      (Comp1.map fun c hc => ⟨_, asg_anon (hce.sto (by decide) rfl) (by decide), rfl, by
        rw [low_middle (hco c hc)]
        exact Ev.call (EvV.glob G (by with_unfolding_all rfl) (hx := hce.glo rfl)) (kept_K G (by with_unfolding_all rfl)) (EvL.cons (Ev.name rfl) (EvL.cons (Ev.bin (Ev.bin (Ev.call (EvV.blt G (by with_unfolding_all rfl) rfl (hx := hce.glo rfl)) kept_blt (EvL.cons (Ev.name rfl) EvL.nil) hR (fn_len_map (g := D.int) (by have := hc100 c hc; (first | lia | omega)))) Ev.int op_sub) Ev.int (op_div (by decide) (PyProof.noPylong_small (by decide)))) EvL.nil)) hR (fn_law_middle G (hc100 c hc))⟩)
  refine ExT.return ((Ev.m (Ev.cmp (d₁ := .lst ((colsF log).map highF)) (d₂ := .lst ((colsF log).map highF)) (Ev.name rfl) ?_ (op_eq_lst hR (plain_high _) (depth_high _)))))
  exact Ev.comp (ρ₀ := []) (Ev.name rfl) (Itr.lst hR.handled) (ScOk.of rfl (by decide) rfl) rho_nil fun ce hce => Gath.one (.inl ⟨_, _, rfl⟩) (by rw [List.length_map, hcn]; decide)
      (Comp1.map fun c hc => ⟨_, asg_anon (hce.sto (by decide) rfl) (by decide), rfl, by
        rw [high_middle (hco c hc)]
        exact Ev.call (EvV.glob G (by with_unfolding_all rfl) (hx := hce.glo rfl)) (kept_K G (by with_unfolding_all rfl)) (EvL.cons (Ev.name rfl) (EvL.cons (Ev.bin (Ev.call (EvV.blt G (by with_unfolding_all rfl) rfl (hx := hce.glo rfl)) kept_blt (EvL.cons (Ev.name rfl) EvL.nil) hR (fn_len_map (g := D.int) (by have := hc100 c hc; (first | lia | omega)))) Ev.int (op_div (by decide) (PyProof.noPylong_small (by decide)))) EvL.nil)) hR (fn_law_middle G (hc100 c hc))⟩)
end
end Mine
set_option maxHeartbeats 400000
namespace Mine
theorem well_list {P : Params} {h : Heap} {l : Addr} {xs : List WData} (W : Well P h (.ref l) (.list xs)) : ∃ vs : List Value, h.get? l = some { cls := .type "list", data := .seq vs.toArray } ∧ WellAll P h vs xs := by
  cases W with
  | list e a => exact ⟨_, e, a⟩
theorem well_int {P : Params} {h : Heap} {v : Value} {n : Int} (W : Well P h v (.int n)) : ∃ t, v = .int n t := by
  cases W; exact ⟨_, rfl⟩
theorem ints_of_well {P : Params} {h : Heap} {ns : List Int} : ∀ {vs : List Value}, WellAll P h vs (ofPys (ns.map PyData.int)) → IntsAre vs ns := by
  induction ns with
  | nil => intro vs h; cases h; exact .nil
  | cons n ns ih =>
    intro vs h
    cases h with
    | cons a b =>
      obtain ⟨t, rfl⟩ := well_int a
      exact .cons _ _ (ih b)
noncomputable def lawEnv (L fa : Addr) : Env := envOfC (Str.ofString "law") lawScope L fa (.ref 152)
theorem law_cells (L fa : Addr) : (lawEnv L fa).cells = ([("highs", L + 1 + 1 + 1 + 1 + 1 + 1), ("lows", L + 1 + 1 + 1 + 1 + 1), ("columns", L + 1 + 1 + 1 + 1), ("heads", L + 1 + 1 + 1), ("made", L + 1 + 1), ("log", L + 1)] : List (Str × Addr)) := by rfl
theorem law_script (L fa : Addr) : (lawEnv L fa).kindOf "script" = some .local := by rfl
theorem grown_of {P : Params} {hB : Heap} {env : Env} {ρ : Nm} {ps : List (Nat × Nat)} {F : List (List Addr)} {V : Vw} {s : Shared} {T : Addr} (st : StM P hB env ρ [(anon, .tab ((T, 0) :: ps))] F V s) : GrownAt T s.heap := by
  obtain ⟨_, vs, _, h, _⟩ := muAll_tab_shape st.mu
  exact ⟨_, h⟩
/-- the law is called -/
theorem close_law {prog : Program} {w : World} {p : Program} {loose : List Str} {mean : ExcName → Option Value} {mg mb m : Str → Option Value} {s₁ : Shared} {h₁ hB : Heap} {tk L : Nat} {fa l : Addr} {ns : List Int} (hhB : hB = ghostOf s₁.heap [(152, 150)]) (hL : L = s₁.heap.objs.size)
    (X : (KK w.params).In hB) (T : Top p loose mean mg mb hB) (F : Fr hB L h₁ m) (hm : m "script" = some (.ref l)) (C : CodeHd hB 152 150) (W : Well w.params s₁.heap (.ref l) (ofPy (PyData.list (ns.map PyData.int))))
    (hT : TabsAt [(152, 150)] s₁.heap) (hn : ns.length ≤ 63) (hc : ∀ c ∈ [L + 1 + 1 + 1 + 1 + 1 + 1, L + 1 + 1 + 1 + 1 + 1, L + 1 + 1 + 1 + 1, L + 1 + 1 + 1, L + 1 + 1, L + 1], hB.get? c = none ∧ ∃ v, h₁.IsCell c v)
    (ht : h₁.get? 150 = some (tabObj #[]) ∧ 150 ≠ L ∧ hB.get? 150 = none) {Q : Flow → Shared → Prop} {E : Value → Shared → Prop}
    (hQ : ∀ s', (∀ b o, hB.get? b = some o → s'.heap.get? b = some o) → s'.os = s₁.os → s'.gens = s₁.gens → GrownAt 150 s'.heap → Q (.ret (.bool true)) s') :
    wpAny (model prog w) (callerA.deeper (lawEnv L fa)) (execs lawBody (lawEnv L fa)) Q E { heap := h₁, gens := s₁.gens, drawn := s₁.drawn, toks := tk, os := s₁.os } := by
  have hsz : @Eq Nat hB.objs.size L := by rw [hhB, hL]; exact hideAll_size _ _
  have h150 : (150 : Nat) < L := by rw [hL]; exact Heap.lt_size (hT _ (.head _)).2
  have G : Gd w.params hB := ⟨X, ⟨_, _, _, _, topRead_of T⟩, T.nolimit, by (first | lia | omega)⟩
  have hR : Room (8 + 8) (callerA.deeper (lawEnv L fa)) := ⟨rfl, Nat.le_of_ble_eq_true rfl, Nat.le_of_ble_eq_true rfl⟩
  have hcl : ∀ x c, (lawEnv L fa).cells.lookup x = some c → c ∈ [L + 1 + 1 + 1 + 1 + 1 + 1, L + 1 + 1 + 1 + 1 + 1, L + 1 + 1 + 1 + 1, L + 1 + 1 + 1, L + 1 + 1, L + 1] := fun x c h => by
    have := List.mem_map_of_mem (f := fun q : Str × Addr => q.2) (mem_of_lookup h)
    rw [law_cells] at this
    exact this
  have hlo : ∀ x c, (lawEnv L fa).cells.lookup x = some c → (L : Nat) < (c : Nat) := fun x c h => by
    have := hcl x c h
    simp only [List.mem_cons, List.not_mem_nil, or_false] at this
    rcases this with h | h | h | h | h | h <;> (subst h; exact Nat.lt_of_lt_of_le (Nat.lt_succ_self L) (by first | exact Nat.le_refl _ | exact Nat.le_add_right (L + 1) 1 | exact Nat.le_add_right (L + 1) 2 | exact Nat.le_add_right (L + 1) 3 | exact Nat.le_add_right (L + 1) 4 | exact Nat.le_add_right (L + 1) 5))
  have hgl : hB.get? L = none := get_size_none _ (Nat.le_of_eq hsz)
  have st : St w.params hB (lawEnv L fa) [("script", .lst (intsD ns))] hB.get? { heap := h₁, gens := s₁.gens, drawn := s₁.drawn, toks := tk, os := s₁.os } := by
    refine ⟨fun _ _ e => e, F.keep, rfl, rfl, rfl, F.above, hgl, ⟨m, F.ns⟩, fun x c h => ⟨(hc c (hcl x c h)).1, Nat.ne_of_gt (hlo x c h), ?_, (hc c (hcl x c h)).2⟩, ?_, fun f hf => ?_, fun x d h => ?_⟩
    · exact Nat.le_trans (Nat.le_of_eq hsz) (Nat.le_of_lt (hlo x c h))
    · exact cellsFrom_apart lawScope.names (L + 1) [] List.Pairwise.nil (fun _ h => nomatch h)
    · have : f = L := (Option.some.inj hf).symm
      subst this
      exact ⟨hgl, m, F.ns⟩
    · rcases lookup_cons_of h with ⟨rfl, rfl⟩ | ⟨_, q⟩
      · refine ⟨by decide, .ref l, ?_, .inl ⟨law_script L fa, m, F.ns, hm⟩⟩
        obtain ⟨vs, e, a⟩ := well_list W
        refine .lst (n := 0) (V := hB.get?) ?_ (RepAll.of_ints (ints_of_well a))
        rw [hhB]
        exact ghost_get hT e (by intro q; cases q)
      · cases q
  have stm : StM w.params hB (lawEnv L fa) [("script", .lst (intsD ns))] [(anon, .tab [(150, 0)])] [[150]] hB.get? { heap := h₁, gens := s₁.gens, drawn := s₁.drawn, toks := tk, os := s₁.os } := by
    refine ⟨st, .cons (by decide) (fun q => absurd rfl q) (.tab (vs := []) ht.1 .nil) .nil, by simp, fun a ha => ?_⟩
    have : a = 150 := by simpa using ha
    subst this
    exact ⟨ht.2.2, ⟨ht.2.1, fun q => ht.2.1 (Option.some.inj q).symm⟩, fun x c h q => by have := hlo x c h; rw [q] at this; exact Nat.lt_asymm h150 this⟩
  refine wpAny_mono (ex_law (env := lawEnv L fa) G T hn hR rfl rfl rfl C rfl (Around.frames_deeper rfl) _ _ _ E stm) (fun f s' ⟨V', v, ρ', F', x, hf, r, st'⟩ => ?_) fun _ _ e => e
  subst hf
  refine Rep.boolE ?_ r
  obtain ⟨h', tk', rfl⟩ := x.same
  exact hQ _ (fun b o e => x.held b o (x.le b o e)) rfl rfl (grown_of st')
end Mine
set_option maxHeartbeats 400000
namespace Mine
end Mine
set_option maxHeartbeats 8000000 in
theorem PySem.Challenge.cw_rs0038_01_holds : PySem.Challenge.rw_rs0038_01.Holds :=
  Mine.hd (by
    k_go0
    (all_goals try k_fold)
    rename_i o5 o4 o3 o2 o1 o0 d5 d4 d3 d2 d1 d0 X0 X' T' K' F' N' l0
    rename_i _ _ _ _ _ w1 _ _ _ hcond' _ _ _ _
    refine Mine.close_law rfl rfl X' T' F' rfl codeHd w1 hT9 (by (first | lia | omega)) (List.forall_mem_cons.mpr ⟨⟨(N' _ (.head _)).2.2, _, _, (N' _ (.head _)).1, d5⟩, (List.forall_mem_cons.mpr ⟨⟨(N' _ (.tail _ (.head _))).2.2, _, _, (N' _ (.tail _ (.head _))).1, d4⟩, (List.forall_mem_cons.mpr ⟨⟨(N' _ (.tail _ (.tail _ (.head _)))).2.2, _, _, (N' _ (.tail _ (.tail _ (.head _)))).1, d3⟩, (List.forall_mem_cons.mpr ⟨⟨(N' _ (.tail _ (.tail _ (.tail _ (.head _))))).2.2, _, _, (N' _ (.tail _ (.tail _ (.tail _ (.head _))))).1, d2⟩, (List.forall_mem_cons.mpr ⟨⟨(N' _ (.tail _ (.tail _ (.tail _ (.tail _ (.head _)))))).2.2, _, _, (N' _ (.tail _ (.tail _ (.tail _ (.tail _ (.head _)))))).1, d1⟩, (List.forall_mem_cons.mpr ⟨⟨(N' _ (.tail _ (.tail _ (.tail _ (.tail _ (.tail _ (.head _))))))).2.2, _, _, (N' _ (.tail _ (.tail _ (.tail _ (.tail _ (.tail _ (.head _))))))).1, d0⟩, nofun⟩)⟩)⟩)⟩)⟩)⟩) (N' _ (.tail _ (.tail _ (.tail _ (.tail _ (.tail _ (.tail _ (.head _)))))))) fun s' hk hos hgens hgrown => ?_
    exact ⟨⟨.inl ⟨_, .bool true, [], rfl, fun _ => rfl, .bool true, (by wrow_post), unshared_nil⟩, hk, hos, hgens.trans (by assumption)⟩, hgrown, trivial⟩)
