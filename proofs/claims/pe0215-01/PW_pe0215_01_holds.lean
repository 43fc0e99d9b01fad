import PyProof.Rows.All
import Wide.All
import OpenK.AllK
import Wide.FinOn
import KE.KRevIter
import KE.KItem
import KE.KListMore
import KE.KSortAsk
import KE.KSortKey
import KE.KDictSum
import Lean
import PySem.Challenge.RW_pe0215_01
open PySem PySem.W PyProof.Rows
set_option Elab.async false
set_option linter.unusedVariables false
namespace Mine
noncomputable def hdPick : List Nat → List Stmt → List Stmt
  | [], _ => []
  | _, [] => []
  | 0 :: ks, s :: ss => s :: hdPick (ks.map (· - 1)) ss
  | k :: ks, s :: ss => hdPick ((k :: ks).map (· - 1)) ss
noncomputable def hdView : Program := { Challenge.pw_pe0215_01 with main := { Challenge.pw_pe0215_01.main with body := hdPick [1, 2, 4, 5, 6, 7, 8, 9, 10, 16, 17, 18, 19, 20, 21, 22, 23, 24, 25, 26, 27, 28] Challenge.pw_pe0215_01.main.body } }
noncomputable def hdLoose : List Str := [Str.ofString "insort_right", Str.ofString "bisect_right", Str.ofString "bisect_left"]
local macro_rules | `(tactic| o_head $H) => `(tactic| (
    refine holds_open (q := hdView) (loose := hdLoose) (Xt := fun s => xlAt hdView [] s && recOk [] s) (XP := XL hdView []) (Yf := Hook.obs $H) (Ya := Hook.val $H) (YP := Hook.says $H) (N := 1760) ?hl (Hook.of $H) (Hook.keeps $H) (fun s e => xl_of s (Bool.and_eq_true_iff.mp e).1) XL.keeps (by rfl) (by rfl) (by rfl) (fun s e => recFacts_of (Bool.and_eq_true_iff.mp e).2) (by rfl) (by decide +kernel) (by decide +kernel) ⟨rfl, rfl, rfl, rfl, rfl, by decide +kernel⟩ ?hw ?hc
    (case hl => (intro w; kernel_rfl))))
set_option maxRecDepth 100000 in
set_option maxHeartbeats 8000000 in
open_top hd for PySem.Challenge.rw_pe0215_01
end Mine

open PySem PySem.W PyProof.Rows PySem.Spec PySem.Calls
set_option Elab.async false
set_option maxRecDepth 100000
namespace Mine

noncomputable def Ext (h h' : Heap) : Prop := ∀ b o, h.get? b = some o → h'.get? b = some o
theorem Ext.rfl {h : Heap} : Ext h h := fun _ _ e => e
theorem Ext.trans {a b c : Heap} (x : Ext a b) (y : Ext b c) : Ext a c := fun p o e => y p o (x p o e)

/-- the tables of nested codes: they alone may turn below a call -/
noncomputable abbrev TB : List Addr := [125, 118, 51, 44, 171]

noncomputable def KH (h h' : Heap) : Prop := ∀ b o, b ∉ TB → h.get? b = some o → h'.get? b = some o
theorem KH.rfl {h : Heap} : KH h h := fun _ _ _ e => e
theorem KH.trans {a b c : Heap} (x : KH a b) (y : KH b c) : KH a c := fun p o n e => y p o n (x p o n e)
theorem Ext.kh {h h' : Heap} (x : Ext h h') : KH h h' := fun b o _ e => x b o e

theorem hid_ext (μ : List Addr) (h : Heap) : Ext (hideAll h μ) h := fun _ _ e => of_hideAll _ e
theorem hid_get {μ : List Addr} {h : Heap} {b : Addr} {o : Obj} (e : h.get? b = some o) (n : b ∉ μ) : (hideAll h μ).get? b = some o := hideAll_get _ e n
theorem hid_inv {μ : List Addr} {h : Heap} {b : Addr} {o : Obj} (e : (hideAll h μ).get? b = some o) : h.get? b = some o ∧ b ∉ μ :=
  ⟨of_hideAll _ e, fun m => by rw [hideAll_none _ m] at e; cases e⟩
theorem hid_mono {μ μ' : List Addr} {h h' : Heap} (k : ∀ b o, b ∉ μ → h.get? b = some o → h'.get? b = some o ∧ b ∉ μ') : Ext (hideAll h μ) (hideAll h' μ') := fun b o e => by
  obtain ⟨e1, e2⟩ := hid_inv e
  obtain ⟨e3, e4⟩ := k b o e2 e1
  exact hid_get e3 e4
theorem KH.hid {μ : List Addr} {h h' : Heap} (s : ∀ P ∈ TB, P ∈ μ) (k : KH h h') : Ext (hideAll h μ) (hideAll h' μ) :=
  hid_mono fun b o n e => ⟨k b o (fun m => n (s b m)) e, n⟩
theorem hid_less {μ μ' : List Addr} {h : Heap} (s : ∀ b ∈ μ', b ∈ μ) : Ext (hideAll h μ) (hideAll h μ') :=
  hid_mono fun b _ n e => ⟨e, fun m => n (s b m)⟩

inductive D where
  | val (v : Value)
  | none
  | bool (b : Bool)
  | int (i : Int)
  | tup (ds : List D)
  | list (ds : List D)
  | dict (kvs : List (Int × Int))
  | rng (a b c : Int)
  | vals (kvs : List (Int × Int))
  | items (kvs : List (Int × Int))
  | scr (ds : List D)
  | fn (name qual : Str) (params : Arguments) (body : FuncBody) (scope : Scope) (cl : List (Str × Addr))

noncomputable abbrev mkFd (name qual : Str) (params : Arguments) (body : FuncBody) (scope : Scope) (cl : List (Str × Addr)) (doc pm cdv ct : Value) : FuncData :=
  { name, qualname := qual, params, body, scope, globals := mainGlobals, closure := cl, defaults := .none, kwdefaults := .none, doc, pyModule := pm, annotations := none, code := cdv, closureTuple := ct, builtins := builtinsNs }
noncomputable abbrev fnObj (fd : FuncData) : Obj := { cls := .type "function", data := .func fd }

structure Cx where
  prog : Program
  w : World
  loose : List Str
  mean : ExcName → Option Value
  mg : Str → Option Value
  mb : Str → Option Value

section
variable {C : Cx}

inductive IntVals : List (Int × Value) → List (Int × Int) → Prop
  | nil : IntVals [] []
  | cons {k c : Int} {t : Tok} {l : List (Int × Value)} {l' : List (Int × Int)} : IntVals l l' → IntVals ((k, .int c t) :: l) ((k, c) :: l')

inductive ValOfD (w : Value) : Value → Prop
  | val : ValOfD w w
inductive IntOfD (i : Int) : Value → Prop
  | int (t : Tok) : IntOfD i (.int i t)
inductive TupOfD (g : Heap) (P : List Value → Prop) : Value → Prop
  | tup {a : Addr} {vs : Array Value} : g.IsTuple a vs → P vs.toList → TupOfD g P (.ref a)
inductive ListOfD (g : Heap) (P : List Value → Prop) : Value → Prop
  | list {a : Addr} {vs : Array Value} : g.PlainList a vs → P vs.toList → ListOfD g P (.ref a)
inductive ScrOfD (g : Heap) (P : List Value → Prop) : Value → Prop
  | scr {a : Addr} {vs : Array Value} : g.IsList a vs → P vs.toList → ScrOfD g P (.ref a)
inductive DictOfD (C : Cx) (g : Heap) (kvs : List (Int × Int)) : Value → Prop
  | dict {a : Addr} {l : List (Int × Value)} : g.DictOf (intKind C.prog C.w) a l → (a == sysModules) = false → IntVals l kvs → DictOfD C g kvs (.ref a)
inductive ValsOfD (C : Cx) (g : Heap) (kvs : List (Int × Int)) : Value → Prop
  | vals {v a : Addr} {l : List (Int × Value)} : g.IsValuesView v a → g.DictOf (intKind C.prog C.w) a l → (a == sysModules) = false → IntVals l kvs → ValsOfD C g kvs (.ref v)
inductive ItemsOfD (C : Cx) (g : Heap) (kvs : List (Int × Int)) : Value → Prop
  | items {v a : Addr} {l : List (Int × Value)} : g.IsItemsView v a → g.DictOf (intKind C.prog C.w) a l → (a == sysModules) = false → IntVals l kvs → ItemsOfD C g kvs (.ref v)
inductive RngOfD (g : Heap) (a b c : Int) : Value → Prop
  | rng {r : Addr} {t u x : Tok} : IsRange g r a b c t u x → RngOfD g a b c (.ref r)
inductive FnOfD (g : Heap) (name qual : Str) (params : Arguments) (body : FuncBody) (scope : Scope) (cl : List (Str × Addr)) : Value → Prop
  | fn {a : Addr} {doc pm cdv ct : Value} : g.get? a = some (fnObj (mkFd name qual params body scope cl doc pm cdv ct)) → g.CodeRec cdv qual → FnOfD g name qual params body scope cl (.ref a)
inductive NilOf : List Value → Prop
  | nil : NilOf []
inductive ConsOf (P : Value → Prop) (Q : List Value → Prop) : List Value → Prop
  | cons {v : Value} {vs : List Value} : P v → Q vs → ConsOf P Q (v :: vs)

mutual
noncomputable def Rep (C : Cx) (g : Heap) : Value → D → Prop
  | v, .val w => ValOfD w v
  | v, .none => ValOfD .none v
  | v, .bool b => ValOfD (.bool b) v
  | v, .int i => IntOfD i v
  | v, .tup ds => TupOfD g (fun vs => RepL C g vs ds) v
  | v, .list ds => ListOfD g (fun vs => RepL C g vs ds) v
  | v, .dict kvs => DictOfD C g kvs v
  | v, .rng a b c => RngOfD g a b c v
  | v, .vals kvs => ValsOfD C g kvs v
  | v, .items kvs => ItemsOfD C g kvs v
  | v, .scr ds => ScrOfD g (fun vs => RepL C g vs ds) v
  | v, .fn name qual params body scope cl => FnOfD g name qual params body scope cl v
noncomputable def RepL (C : Cx) (g : Heap) : List Value → List D → Prop
  | vs, [] => NilOf vs
  | vs, d :: ds => ConsOf (fun v => Rep C g v d) (fun vs => RepL C g vs ds) vs
end

section
variable {g : Heap}
theorem Rep.val (v : Value) : Rep C g v (.val v) := by unfold Rep; exact .val
theorem Rep.none : Rep C g .none .none := by unfold Rep; exact .val
theorem Rep.bool (b : Bool) : Rep C g (.bool b) (.bool b) := by unfold Rep; exact .val
theorem Rep.int (i : Int) (t : Tok) : Rep C g (.int i t) (.int i) := by unfold Rep; exact .int t
theorem Rep.tup {a : Addr} {vs : Array Value} {ds : List D} (h : g.IsTuple a vs) (r : RepL C g vs.toList ds) : Rep C g (.ref a) (.tup ds) := by unfold Rep; exact .tup h r
theorem Rep.list {a : Addr} {vs : Array Value} {ds : List D} (h : g.PlainList a vs) (r : RepL C g vs.toList ds) : Rep C g (.ref a) (.list ds) := by unfold Rep; exact .list h r
theorem Rep.dict {a : Addr} {l : List (Int × Value)} {kvs : List (Int × Int)} (h : g.DictOf (intKind C.prog C.w) a l) (n : (a == sysModules) = false) (i : IntVals l kvs) : Rep C g (.ref a) (.dict kvs) := by unfold Rep; exact .dict h n i
theorem Rep.rng {r : Addr} {a b c : Int} {t u x : Tok} (h : IsRange g r a b c t u x) : Rep C g (.ref r) (.rng a b c) := by unfold Rep; exact .rng h
theorem Rep.vals {v a : Addr} {l : List (Int × Value)} {kvs : List (Int × Int)} (hv : g.IsValuesView v a) (h : g.DictOf (intKind C.prog C.w) a l) (n : (a == sysModules) = false) (i : IntVals l kvs) : Rep C g (.ref v) (.vals kvs) := by unfold Rep; exact .vals hv h n i
theorem Rep.items {v a : Addr} {l : List (Int × Value)} {kvs : List (Int × Int)} (hv : g.IsItemsView v a) (h : g.DictOf (intKind C.prog C.w) a l) (n : (a == sysModules) = false) (i : IntVals l kvs) : Rep C g (.ref v) (.items kvs) := by unfold Rep; exact .items hv h n i
theorem Rep.scr {a : Addr} {vs : Array Value} {ds : List D} (h : g.IsList a vs) (r : RepL C g vs.toList ds) : Rep C g (.ref a) (.scr ds) := by unfold Rep; exact .scr h r
theorem Rep.fn {a : Addr} {name qual : Str} {params : Arguments} {body : FuncBody} {scope : Scope} {cl : List (Str × Addr)} {doc pm cdv ct : Value} (h : g.get? a = some (fnObj (mkFd name qual params body scope cl doc pm cdv ct))) (q : g.CodeRec cdv qual) : Rep C g (.ref a) (.fn name qual params body scope cl) := by unfold Rep; exact .fn h q
theorem RepL.nil : RepL C g [] [] := by unfold RepL; exact .nil
theorem RepL.cons {v : Value} {vs : List Value} {d : D} {ds : List D} (h : Rep C g v d) (r : RepL C g vs ds) : RepL C g (v :: vs) (d :: ds) := by unfold RepL; exact .cons h r
end

mutual
theorem Rep.mono {g g' : Heap} (x : Ext g g') : ∀ {d : D} {v : Value}, Rep C g v d → Rep C g' v d
  | .val _, _, ⟨⟩ => .val _
  | .none, _, ⟨⟩ => .none
  | .bool b, _, ⟨⟩ => .bool b
  | .int i, _, ⟨t⟩ => .int i t
  | .tup _, _, ⟨i, r⟩ => .tup (i.at fun o q => x _ o q) (RepL.mono x r)
  | .list _, _, ⟨i, r⟩ => .list (i.at fun o q => x _ o q) (RepL.mono x r)
  | .dict _, _, ⟨i, n, r⟩ => .dict (i.keep x) n r
  | .rng _ _ _, _, ⟨i⟩ => .rng (x _ _ i)
  | .vals _, _, ⟨i, j, n, r⟩ => .vals (let ⟨o, e, q⟩ := i; ⟨o, x _ _ e, q⟩) (j.keep x) n r
  | .items _, _, ⟨i, j, n, r⟩ => .items (let ⟨o, e, q⟩ := i; ⟨o, x _ _ e, q⟩) (j.keep x) n r
  | .scr _, _, ⟨i, r⟩ => .scr (i.at fun o q => x _ o q) (RepL.mono x r)
  | .fn .., _, ⟨i, r⟩ => .fn (x _ _ i) (r.keeps x)
theorem RepL.mono {g g' : Heap} (x : Ext g g') : ∀ {ds : List D} {vs : List Value}, RepL C g vs ds → RepL C g' vs ds
  | [], _, ⟨⟩ => .nil
  | _ :: _, _, ⟨h, r⟩ => .cons (Rep.mono x h) (RepL.mono x r)
end

/-- (code, its table, the qualified name of what is nested in it) -/
noncomputable def tabq : List (Addr × Addr × Str) := [(129, 125, Str.ofString "_law_ends.<locals>.<lambda>"), (122, 118, Str.ofString "_law_listing.<locals>.<lambda>"), (55, 51, Str.ofString "_digits2int.<locals>.inner"), (48, 44, Str.ofString "_int2digits.<locals>.inner"), (173, 171, Str.ofString "law.<locals>.<lambda>")]

noncomputable def TabInv (g h : Heap) (P : Addr) (q : Str) : Prop :=
  ∃ ps, h.get? P = some (tabObj ps) ∧ TriplesOk ps.toList ∧ ∀ pos c, codeAmong pos ps.toList = some c → g.CodeRec c q

structure Good (C : Cx) (μ : List Addr) (h : Heap) : Prop where
  sub : ∀ P ∈ TB, P ∈ μ
  low : ∀ a ∈ μ, ∃ o, h.get? a = some o
  K : (hd.heap_39 C.w.params).In (hideAll h μ)
  T : Top topProg C.loose C.mean C.mg C.mb (hideAll h μ)
  codes : ∀ q ∈ tabq, CodeHd (hideAll h μ) q.1 q.2.1
  tabs : ∀ q ∈ tabq, TabInv (hideAll h μ) h q.2.1 q.2.2

theorem Good.step {μ μ' : List Addr} {h h' : Heap} (G : Good C μ h) (k : Ext (hideAll h μ) (hideAll h' μ')) (s : ∀ P ∈ TB, P ∈ μ') (lw : ∀ a ∈ μ', ∃ o, h'.get? a = some o) (t : ∀ q ∈ tabq, TabInv (hideAll h' μ') h' q.2.1 q.2.2) : Good C μ' h' where
  sub := s
  low := lw
  K := G.K.keeps k
  T := G.T.keeps k
  codes := fun q hq => (G.codes q hq).keeps k
  tabs := t

theorem TabInv.keep {g g' h h' : Heap} {P : Addr} {q : Str} (x : TabInv g h P q) (k : Ext g g') (e : ∀ o, h.get? P = some o → h'.get? P = some o) : TabInv g' h' P q := by
  obtain ⟨ps, h1, h2, h3⟩ := x
  exact ⟨ps, e _ h1, h2, fun pos c e => (h3 pos c e).keeps k⟩

theorem tabq_tb : ∀ q ∈ tabq, q.2.1 ∈ TB := by
  intro q hq
  simp only [tabq, List.mem_cons, List.not_mem_nil, or_false] at hq
  rcases hq with rfl | rfl | rfl | rfl | rfl <;> decide
theorem tb_tab {g h : Heap} (t : ∀ q ∈ tabq, TabInv g h q.2.1 q.2.2) : ∀ a ∈ TB, ∃ o, h.get? a = some o := by
  intro a ha
  have key : ∃ q ∈ tabq, q.2.1 = a := by
    simp only [TB, List.mem_cons, List.not_mem_nil, or_false] at ha
    rcases ha with rfl | rfl | rfl | rfl | rfl
    · exact ⟨_, .head _, rfl⟩
    · exact ⟨_, .tail _ (.head _), rfl⟩
    · exact ⟨_, .tail _ (.tail _ (.head _)), rfl⟩
    · exact ⟨_, .tail _ (.tail _ (.tail _ (.head _))), rfl⟩
    · exact ⟨_, .tail _ (.tail _ (.tail _ (.tail _ (.head _)))), rfl⟩
  obtain ⟨q, hq, rfl⟩ := key
  obtain ⟨ps, e, _⟩ := t q hq
  exact ⟨_, e⟩
/-- the tables stay, what is hidden may turn -/
theorem Good.turn {μ μ' : List Addr} {h h' : Heap} (G : Good C μ h) (k : Ext (hideAll h μ) (hideAll h' μ')) (s : ∀ P ∈ TB, P ∈ μ') (lw : ∀ a ∈ μ', ∃ o, h'.get? a = some o) (t : ∀ P ∈ TB, ∀ o, h.get? P = some o → h'.get? P = some o) : Good C μ' h' :=
  G.step k s lw fun q hq => (G.tabs q hq).keep k (t _ (tabq_tb q hq))
theorem Good.on {μ : List Addr} {h h' : Heap} (G : Good C μ h) (k : KH h h') (t : ∀ q ∈ tabq, TabInv (hideAll h' μ) h' q.2.1 q.2.2) : Good C μ h' :=
  G.step (KH.hid G.sub k) G.sub (fun a ha => by
    by_cases hb : a ∈ TB
    · exact tb_tab t a hb
    · obtain ⟨o, e⟩ := G.low a ha
      exact ⟨o, k a o hb e⟩) t
theorem Good.keep {μ : List Addr} {h h' : Heap} (G : Good C μ h) (k : Ext h h') : Good C μ h' :=
  G.turn (KH.hid G.sub k.kh) G.sub (fun a ha => let ⟨o, e⟩ := G.low a ha; ⟨o, k a o e⟩) fun P _ o e => k P o e
theorem Good.new {μ : List Addr} {h : Heap} (G : Good C μ h) : h.objs.size ∉ μ := fun m => by
  obtain ⟨o, e⟩ := G.low _ m
  exact Nat.lt_irrefl _ (Heap.lt_size e)
theorem Good.tb {μ : List Addr} {h : Heap} {a : Addr} (G : Good C μ h) (e : h.get? a = none) : a ∉ TB := fun m => by
  obtain ⟨o, q⟩ := G.low _ (G.sub _ m)
  rw [e] at q; cases q
/-- less is hidden -/
theorem Good.less {μ μ' : List Addr} {h : Heap} (G : Good C μ h) (s : ∀ a ∈ μ', a ∈ μ) (t : ∀ P ∈ TB, P ∈ μ') : Good C μ' h :=
  G.turn (hid_less s) t (fun a ha => G.low a (s a ha)) fun _ _ _ e => e

structure Room (k : Nat) (A : Around) : Prop where
  handled : A.handled = none
  depth : A.depth + k ≤ 900
  units : A.units + 10 * k ≤ 9000

theorem Room.le {k j : Nat} {A : Around} (R : Room k A) (h : j ≤ k) : Room j A := ⟨R.handled, by have := R.depth; lia, by have := R.units; lia⟩
theorem Room.in1 {k : Nat} {A : Around} (R : Room (k + 1) A) : Room k A.in1 := ⟨R.handled, by have := R.depth; show A.depth + k ≤ 900; lia, by have := R.units; show A.units + 1 + 10 * k ≤ 9000; lia⟩
theorem Room.deeper {k : Nat} {A : Around} {env : Env} (R : Room (k + 1) A) : Room k (A.deeper env) := ⟨R.handled, by have := R.depth; show A.depth + 1 + k ≤ 900; lia, by have := R.units; show A.units + 3 + 10 * k ≤ 9000; lia⟩
theorem Room.lim {k : Nat} {A : Around} (R : Room k A) : A.depth < recursionLimit := by have := R.depth; show A.depth < 1000; lia

noncomputable abbrev Asrt := List Addr → Heap → Prop

/-- a tree that changes nothing that stands (but the tables) -/
noncomputable def Ok (C : Cx) (k : Nat) {α : Type} (P : Asrt) (t : Sem α) (R : α → Asrt) : Prop :=
  ∀ (μ : List Addr) (A : Around) (s : Shared) (Q : α → Shared → Prop) (E : Value → Shared → Prop), Good C μ s.heap → P μ s.heap → Room k A →
    (∀ v h' tk, KH s.heap h' → Good C μ h' → R v μ h' → Q v { s with heap := h', toks := tk }) → wpAny (model C.prog C.w) A t Q E s

noncomputable def Stable (C : Cx) (P : Asrt) : Prop := ∀ μ h h', Good C μ h → KH h h' → Good C μ h' → P μ h → P μ h'

variable {k : Nat} {α β : Type} {P P' : Asrt} {R : α → Asrt} {S : β → Asrt}

theorem Ok.bind {t : Sem α} {f : α → Sem β} (st : Stable C P) (h : Ok C k P t R) (hf : ∀ v, Ok C k (fun μ h => P μ h ∧ R v μ h) (f v) S) : Ok C k P (t >>= f) S := by
  intro μ A s Q E G p rm ret
  refine wpAny_bind (h μ A s _ E G p rm fun v h' tk kh G' r => ?_)
  exact hf v μ A _ Q E G' ⟨st _ _ _ G kh G' p, r⟩ rm fun v' h'' tk' kh' G'' r' => ret v' h'' tk' (kh.trans kh') G'' r'
theorem Ok.pre {t : Sem α} (h : Ok C k P t R) (hp : ∀ μ h, P' μ h → P μ h) : Ok C k P' t R := fun μ A s Q E G p rm ret => h μ A s Q E G (hp _ _ p) rm ret
theorem Ok.post {R' : α → Asrt} {t : Sem α} (h : Ok C k P t R) (hp : ∀ v μ h, Good C μ h → R v μ h → R' v μ h) : Ok C k P t R' := fun μ A s Q E G p rm ret => h μ A s Q E G p rm fun v h' tk kh G' r => ret v h' tk kh G' (hp _ _ _ G' r)
theorem Ok.pure {a : α} (h : ∀ μ h, P μ h → R a μ h) : Ok C k P (pure a) R := fun μ A s Q E G p rm ret => wpAny_pure (ret a s.heap s.toks KH.rfl G (h _ _ p))
theorem Ok.holding {vs : List Value} {t : Sem α} (h : Ok C k P t R) : Ok C k P (holding vs t) R := fun μ A s Q E G p rm ret => wpAny_holding (h μ A s Q E G p rm ret)
theorem Ok.standAt {pos : Pos} : Ok C k P (standAt pos) (fun _ => P) := fun μ A s Q E G p rm ret => wpAny_standAt (ret _ s.heap s.toks KH.rfl G p)
theorem Ok.le {j : Nat} {t : Sem α} (h : Ok C j P t R) (hj : j ≤ k) : Ok C k P t R := fun μ A s Q E G p rm ret => h μ A s Q E G p (rm.le hj) ret

end
end Mine

open PySem PySem.W PyProof.Rows PySem.Spec PySem.Calls
set_option Elab.async false
set_option maxRecDepth 100000
set_option linter.unusedVariables false
namespace Mine

structure SA (C : Cx) where
  X : Asrt
  st : Stable C X

noncomputable def SA.tt {C : Cx} : SA C := ⟨fun _ _ => True, fun _ _ _ _ _ _ _ => trivial⟩

noncomputable def Dt (C : Cx) (d : D) : Value → Asrt := fun v μ h => Rep C (hideAll h μ) v d
noncomputable def DtL (C : Cx) (ds : List D) : List Value → Asrt := fun v μ h => RepL C (hideAll h μ) v ds

noncomputable def Sees (C : Cx) (env : Env) (ρ : List (Str × D)) : Asrt := fun μ h =>
  ∀ x d, ρ.lookup x = some d → ∃ v, Rep C (hideAll h μ) v d ∧ Looks (model C.prog C.w) (hideAll h TB) (loadName env x) v ∧
    (env.kindOf x = some .cell ∨ env.kindOf x = some .free → ∃ c, env.cells.lookup x = some c ∧ c ∉ TB ∧ h.IsCell c (some v))

noncomputable def Cn (C : Cx) (env : Env) (ρ : List (Str × D)) (X : SA C) : Asrt := fun μ h => Sees C env ρ μ h ∧ X.X μ h

section
variable {C : Cx} {k : Nat} {env : Env} {ρ : List (Str × D)} {X : SA C} {μ : List Addr} {h h' : Heap} {d : D} {ds : List D} {v : Value} {vs : List Value}

theorem Dt.stable (v : Value) : Stable C (Dt C d v) := fun μ h h' G k G' r => Rep.mono (KH.hid G.sub k) r
theorem DtL.stable (v : List Value) : Stable C (DtL C ds v) := fun μ h h' G k G' r => RepL.mono (KH.hid G.sub k) r
theorem Stable.and {P P' : Asrt} (a : Stable C P) (b : Stable C P') : Stable C (fun μ h => P μ h ∧ P' μ h) := fun μ h h' G k G' r => ⟨a _ _ _ G k G' r.1, b _ _ _ G k G' r.2⟩
theorem Sees.stable : Stable C (Sees C env ρ) := fun μ h h' G k G' r x d e => by
  obtain ⟨v, r1, r2, r3⟩ := r x d e
  exact ⟨v, Rep.mono (KH.hid G.sub k) r1, r2.keeps (KH.hid (fun _ m => m) k), fun hk => let ⟨c, c1, c2, o, c3, c4⟩ := r3 hk; ⟨c, c1, c2, o, k c o c2 c3, c4⟩⟩
theorem Cn.stable : Stable C (Cn C env ρ X) := Sees.stable.and X.st

/-- an expression read in env, under the names' data and one more assertion -/
noncomputable def Ev (C : Cx) (k : Nat) (env : Env) (ρ : List (Str × D)) (X : SA C) (e : Expr) (d : D) : Prop := Ok C k (Cn C env ρ X) (eval e env) (Dt C d)
noncomputable def EvB (C : Cx) (k : Nat) (env : Env) (ρ : List (Str × D)) (X : SA C) (e : Expr) (b : Bool) : Prop := Ok C k (Cn C env ρ X) (isTrue e env (eval e env)) (fun r _ _ => r = b)
noncomputable def EvL (C : Cx) (k : Nat) (env : Env) (ρ : List (Str × D)) (X : SA C) (pos : Pos) (es : List Expr) (ds : List D) : Prop := Ok C k (Cn C env ρ X) (spliced (backTo pos (starEach es env))) (DtL C ds)

structure EnvF (env : Env) : Prop where
  kind : env.scope.kind = .function
  glob : env.globals = mainGlobals
  bi : env.builtins = builtinsNs

/- running a tree whose part runs first -/
theorem Ok.seq {α β : Type} {P : Asrt} {R : α → Asrt} {S : β → Asrt} {t : Sem α} (st : Stable C P) (ht : Ok C k P t R) {u : Sem β}
    (hu : ∀ (μ : List Addr) (A : Around) (s : Shared) (Q : β → Shared → Prop) (E : Value → Shared → Prop), Good C μ s.heap → P μ s.heap → Room k A →
      (∀ Q', (∀ v h' tk, KH s.heap h' → Good C μ h' → P μ h' → R v μ h' → Q' v { s with heap := h', toks := tk }) → wpAny (model C.prog C.w) A t Q' E s) →
      (∀ v h' tk, KH s.heap h' → Good C μ h' → S v μ h' → Q v { s with heap := h', toks := tk }) → wpAny (model C.prog C.w) A u Q E s) : Ok C k P u S :=
  fun μ A s Q E G p rm ret => hu μ A s Q E G p rm (fun Q' hQ => ht μ A s Q' E G p rm fun v h' tk kh G' r => hQ v h' tk kh G' (st _ _ _ G kh G' p) r) ret

theorem ev_name {x : Str} {pos : Pos} (hx : ρ.lookup x = some d) (hd : (x == ("__debug__" : Str)) = false := by decide) : Ev C k env ρ X (.Name x pos) d := by
  intro μ A s Q E G p rm ret
  obtain ⟨v, r1, r2, _⟩ := p.1 x d hx
  exact wpAny_Name (r2 A Q E s (hid_ext _ _) (ret v s.heap s.toks KH.rfl G r1)) hd

theorem ev_global {x : Str} {pos : Pos} (hE : EnvF env) (hx : env.kindOf x = some .globalImplicit) (e : nsIn (hd.heap_39 C.w.params) mainGlobals x = some (some v)) (hd : (x == ("__debug__" : Str)) = false := by decide) :
    Ev C k env ρ X (.Name x pos) (.val v) := by
  intro μ A s Q E G p rm ret
  refine Name_function_global hE.kind hx (loadGlobal_global (mg := C.mg) ?_ (mg_of G.K G.T.g e) (ret v s.heap s.toks KH.rfl G (.val _))) hd
  rw [hE.glob]
  exact G.T.g.keeps (hid_ext _ _)

theorem ev_global_int {x : Str} {pos : Pos} {i : Int} {t : Tok} (hE : EnvF env) (hx : env.kindOf x = some .globalImplicit) (e : nsIn (hd.heap_39 C.w.params) mainGlobals x = some (some (.int i t))) (hd : (x == ("__debug__" : Str)) = false := by decide) :
    Ev C k env ρ X (.Name x pos) (.int i) :=
  (ev_global hE hx e hd).post fun v μ h G r => by cases r; exact .int i t

theorem ev_builtin {x : Str} {pos : Pos} (hE : EnvF env) (hx : env.kindOf x = some .globalImplicit) (e : nsIn (hd.heap_39 C.w.params) mainGlobals x = some none) (hv : bootBuiltins x = some v) (hn : x ≠ "__name__" := by decide) (hd : (x == ("__debug__" : Str)) = false := by decide) :
    Ev C k env ρ X (.Name x pos) (.val v) := by
  intro μ A s Q E G p rm ret
  refine Name_function_global hE.kind hx (loadGlobal_builtin (mg := C.mg) (mb := C.mb) ?_ (mg_none_of G.K G.T.g e) ?_ ((G.T.builtins x hn).trans hv) (ret v s.heap s.toks KH.rfl G (.val _))) hd
  · rw [hE.glob]
    exact G.T.g.keeps (hid_ext _ _)
  · rw [hE.bi]
    exact G.T.b.keeps (hid_ext _ _)

theorem ev_int {i : Int} {n : Nat} {pos : Pos} : Ev C k env ρ X (.Constant (.int i) n pos) (.int i) := fun μ A s Q E G p rm ret =>
  wpAny_Constant_int (ret _ s.heap _ KH.rfl G (.int _ _))
theorem ev_bool {b : Bool} {n : Nat} {pos : Pos} : Ev C k env ρ X (.Constant (.bool b) n pos) (.bool b) := fun μ A s Q E G p rm ret => by
  show wpAny _ _ (pure (.bool b)) Q E s
  exact wpAny_pure (ret _ s.heap s.toks KH.rfl G (.bool b))
theorem ev_none {n : Nat} {pos : Pos} : Ev C k env ρ X (.Constant .none n pos) .none := fun μ A s Q E G p rm ret => by
  show wpAny _ _ (pure .none) Q E s
  exact wpAny_pure (ret _ s.heap s.toks KH.rfl G .none)

/-- what an operation does with two data -/
noncomputable def Bin (C : Cx) (k : Nat) (f : Value → Value → Sem Value) (d₁ d₂ d : D) : Prop := ∀ v₁ v₂, Ok C k (fun μ h => Dt C d₁ v₁ μ h ∧ Dt C d₂ v₂ μ h) (f v₁ v₂) (Dt C d)
noncomputable def Una (C : Cx) (k : Nat) (f : Value → Sem Value) (d₁ d : D) : Prop := ∀ v₁, Ok C k (Dt C d₁ v₁) (f v₁) (Dt C d)
noncomputable def UnaB (C : Cx) (k : Nat) (f : Value → Sem Bool) (d₁ : D) (b : Bool) : Prop := ∀ v₁, Ok C k (Dt C d₁ v₁) (f v₁) (fun r _ _ => r = b)

theorem ev_binop {l r : Expr} {op : Operator} {pos : Pos} {d₁ d₂ : D} (hl : Ev C k env ρ X l d₁) (hr : Ev C k env ρ X r d₂) (ho : Bin C k (binaryOp op) d₁ d₂ d) : Ev C k env ρ X (.BinOp l op r pos) d := by
  intro μ A s Q E G p rm ret
  refine wpAny_BinOp (hl μ A s _ E G p rm fun v₁ h₁ tk₁ k₁ G₁ r₁ => hr μ A _ _ E G₁ (Cn.stable _ _ _ G k₁ G₁ p) rm fun v₂ h₂ tk₂ k₂ G₂ r₂ => ?_)
  exact ho v₁ v₂ μ A _ _ E G₂ ⟨Dt.stable _ _ _ _ G₁ k₂ G₂ r₁, r₂⟩ rm fun v h' tk k₃ G₃ r₃ => ret v h' tk ((k₁.trans k₂).trans k₃) G₃ r₃

theorem ev_compare {l r : Expr} {op : CmpOp} {pos : Pos} {d₁ d₂ : D} (hl : Ev C k env ρ X l d₁) (hr : Ev C k env ρ X r d₂) (ho : Bin C k (compareOp op) d₁ d₂ d)
    (hm : behindInMarks op r = false := by with_unfolding_all rfl) : Ev C k env ρ X (.Compare l [op] [r] pos) d := by
  intro μ A s Q E G p rm ret
  refine wpAny_Compare1 (hl μ A s _ E G p rm fun v₁ h₁ tk₁ k₁ G₁ r₁ => hr μ A _ _ E G₁ (Cn.stable _ _ _ G k₁ G₁ p) rm fun v₂ h₂ tk₂ k₂ G₂ r₂ => ?_) hm
  exact ho v₁ v₂ μ A _ _ E G₂ ⟨Dt.stable _ _ _ _ G₁ k₂ G₂ r₁, r₂⟩ rm fun v h' tk k₃ G₃ r₃ => ret v h' tk ((k₁.trans k₂).trans k₃) G₃ r₃

theorem evb_compare {l r : Expr} {op : CmpOp} {pos : Pos} {d₁ d₂ : D} {b : Bool} (hl : Ev C k env ρ X l d₁) (hr : Ev C k env ρ X r d₂) (ho : Bin C k (compareOp op) d₁ d₂ (.bool b))
    (hm : behindInMarks op r = false := by with_unfolding_all rfl) : EvB C k env ρ X (.Compare l [op] [r] pos) b := by
  intro μ A s Q E G p rm ret
  refine wpAny_isTrue_Compare1 (hl μ A s _ E G p rm fun v₁ h₁ tk₁ k₁ G₁ r₁ => hr μ A _ _ E G₁ (Cn.stable _ _ _ G k₁ G₁ p) rm fun v₂ h₂ tk₂ k₂ G₂ r₂ => ?_) hm
  refine ho v₁ v₂ μ A _ _ E G₂ ⟨Dt.stable _ _ _ _ G₁ k₂ G₂ r₁, r₂⟩ rm fun v h' tk k₃ G₃ r₃ => ?_
  cases r₃
  exact wpAny_truthy_bool (ret b h' tk ((k₁.trans k₂).trans k₃) G₃ rfl)

theorem ev_unary {x : Expr} {op : UnaryOp} {pos : Pos} {d₁ : D} (hx : Ev C k env ρ X x d₁) (ho : Una C k (unaryOp op) d₁ d) : Ev C k env ρ X (.UnaryOp op x pos) d := by
  intro μ A s Q E G p rm ret
  show wpAny _ _ (do let v ← eval x env; standAt pos; holding [v] (unaryOp op v)) Q E s
  refine wpAny_bind (hx μ A s _ E G p rm fun v₁ h₁ tk₁ k₁ G₁ r₁ => wpAny_bind (wpAny_standAt (wpAny_holding ?_)))
  exact ho v₁ μ A _ _ E G₁ r₁ rm fun v h' tk k₃ G₃ r₃ => ret v h' tk (k₁.trans k₃) G₃ r₃

theorem evb_not {x : Expr} {pos : Pos} {b : Bool} (hx : EvB C k env ρ X x b) : EvB C k env ρ X (.UnaryOp .Not x pos) (!b) := by
  intro μ A s Q E G p rm ret
  show wpAny _ _ (do return !(← isTrue x env (eval x env))) Q E s
  refine wpAny_bind (hx μ A s _ E G p rm fun r h' tk kh G' e => ?_)
  cases e
  exact wpAny_pure (ret _ h' tk kh G' rfl)

theorem evb_or {x y : Expr} {pos : Pos} {a b : Bool} (hx : EvB C k env ρ X x a) (hy : a = false → EvB C k env ρ X y b) : EvB C k env ρ X (.BoolOp .Or [x, y] pos) (a || b) := by
  intro μ A s Q E G p rm ret
  show wpAny _ _ (do match BoolOp.Or, ← isTrue x env (eval x env) with
    | .And, false => pure false
    | .Or, true => pure true
    | _, _ => allTrue .Or [y] env) Q E s
  refine wpAny_bind (hx μ A s _ E G p rm fun r h' tk kh G' e => ?_)
  cases e
  cases a with
  | true => exact wpAny_pure (ret _ h' tk kh G' rfl)
  | false =>
    show wpAny _ _ (do match BoolOp.Or, ← isTrue y env (eval y env) with
      | .And, false => pure false
      | .Or, true => pure true
      | _, _ => allTrue .Or [] env) Q E _
    refine wpAny_bind (hy rfl μ A _ _ E G' (Cn.stable _ _ _ G kh G' p) rm fun r h'' tk' kh' G'' e => ?_)
    cases e
    cases b with
    | true => exact wpAny_pure (ret _ h'' tk' (kh.trans kh') G'' rfl)
    | false => exact wpAny_pure (ret _ h'' tk' (kh.trans kh') G'' rfl)

/-- a test that is no not, and, or, if, comparison -/
theorem evb_of {e : Expr} {b : Bool} (hx : Ev C k env ρ X e d) (ho : UnaB C k truthy d b) (he : ∀ t, isTrue e env t = (do let v ← t; standAt e.pos; holding [v] (truthy v)) := by intro _; rfl) : EvB C k env ρ X e b := by
  intro μ A s Q E G p rm ret
  rw [he]
  refine wpAny_bind (hx μ A s _ E G p rm fun v₁ h₁ tk₁ k₁ G₁ r₁ => wpAny_bind (wpAny_standAt (wpAny_holding ?_)))
  exact ho v₁ μ A _ _ E G₁ r₁ rm fun v h' tk k₃ G₃ r₃ => ret v h' tk (k₁.trans k₃) G₃ r₃

theorem ev_ifexp {t a b : Expr} {pos : Pos} {c : Bool} (ht : EvB C k env ρ X t c) (ha : c = true → Ev C k env ρ X a d) (hb : c = false → Ev C k env ρ X b d) : Ev C k env ρ X (.IfExp t a b pos) d := by
  intro μ A s Q E G p rm ret
  show wpAny _ _ (do if ← isTrue t env (eval t env) then eval a env else eval b env) Q E s
  refine wpAny_bind (ht μ A s _ E G p rm fun r h' tk kh G' e => ?_)
  cases e
  have p' := Cn.stable _ _ _ G kh G' p
  cases c with
  | true => exact ha rfl μ A _ Q E G' p' rm fun v h'' tk' kh' G'' r => ret v h'' tk' (kh.trans kh') G'' r
  | false => exact hb rfl μ A _ Q E G' p' rm fun v h'' tk' kh' G'' r => ret v h'' tk' (kh.trans kh') G'' r

theorem evl_nil {pos : Pos} : EvL C k env ρ X pos [] [] := fun μ A s Q E G p rm ret => spliced_nil (ret [] s.heap s.toks KH.rfl G .nil)
theorem evl_cons {pos : Pos} {e : Expr} {es : List Expr} (he : Ev C k env ρ X e d) (hr : EvL C k env ρ X pos es ds) (hs : starEach (e :: es) env = (false, eval e env) :: starEach es env := by rfl) : EvL C k env ρ X pos (e :: es) (d :: ds) := by
  intro μ A s Q E G p rm ret
  rw [hs]
  show wpAny _ _ (spliced ((false, if false = true then do let v ← eval e env; standAt pos; pure v else eval e env) :: backTo pos (starEach es env))) Q E s
  refine spliced_cons (he μ A s _ E G p rm fun v₁ h₁ tk₁ k₁ G₁ r₁ => ?_)
  refine hr μ A _ _ E G₁ (Cn.stable _ _ _ G k₁ G₁ p) rm fun vs h₂ tk₂ k₂ G₂ r₂ => ?_
  exact ret _ h₂ tk₂ (k₁.trans k₂) G₂ (.cons (Dt.stable _ _ _ _ G₁ k₂ G₂ r₁) r₂)

end
end Mine

open PySem PySem.W PyProof.Rows PySem.Spec PySem.Calls
set_option Elab.async false
set_option maxRecDepth 100000
set_option linter.unusedVariables false
namespace Mine
section
variable {C : Cx} {k : Nat} {env : Env} {ρ : List (Str × D)} {X : SA C} {d : D} {ds : List D}

/-- a call that keeps what stands -/
noncomputable def Fn (C : Cx) (k : Nat) (f : Value) (ds : List D) (d : D) : Prop := ∀ vs, Ok C k (DtL C ds vs) (call f vs) (Dt C d)

noncomputable def Kp (C : Cx) (f : Value) : Prop := ∀ μ h, Good C μ h → ∃ kk, (kk = Keeper.frame ∨ kk = Keeper.machine ∨ kk = Keeper.boundFrame) ∧ Looks (model C.prog C.w) h (keeperOf f) kk
theorem kp_builtin {id : String} : Kp C (.builtin id) := fun μ h G => ⟨.machine, .inr (.inl rfl), Looks.of_pure rfl⟩
theorem kp_type {id : String} : Kp C (.type id) := fun μ h G => ⟨.machine, .inr (.inl rfl), Looks.of_pure rfl⟩
theorem kp_fn {f : Value} (hk : keepIn (hd.heap_39 C.w.params) f = true) : Kp C f := fun μ h G => keeps_K hk h (G.K.keeps (hid_ext _ _))

theorem ev_call {func e : Expr} {es : List Expr} {pos : Pos} {fv : Value} (hf : Ev C k env ρ X func (.val fv)) (ha : EvL C k env ρ X pos (e :: es) ds) (hk : Kp C fv) (hc : Fn C k fv ds d)
    (he : eval (.Call func (e :: es) [] pos) env = (do callWith pos (← eval func env) [] (backTo pos (starEach (e :: es) env)) (backToKw pos (keywordEach [] env))) := by rfl)
    (hs : starEach (e :: es) env = (false, eval e env) :: starEach es env := by rfl) (hp : (backTo pos (starEach es env)).any (·.1) = false := by rfl) : Ev C k env ρ X (.Call func (e :: es) [] pos) d := by
  intro μ A s Q E G p rm ret
  rw [he]
  refine wpAny_bind (hf μ A s _ E G p rm fun fv' h₁ tk₁ k₁ G₁ r₁ => ?_)
  cases r₁
  show wpAny _ _ (callWith pos fv [] (backTo pos (starEach (e :: es) env)) []) Q E _
  have ha' := ha μ A { s with heap := h₁, toks := tk₁ } 
  rw [hs] at ha' ⊢
  refine callWith_of (P := fun h => Good C μ h) (by show ((false || (backTo pos (starEach es env)).any (·.1)) || false) = false; rw [hp]; rfl) (fun h G => hk μ h G) (evalArgs_plain ?_)
  refine ha' _ E G₁ (Cn.stable _ _ _ G k₁ G₁ p) rm fun vs h₂ tk₂ k₂ G₂ r₂ => ⟨G₂, ?_⟩
  exact hc vs μ A _ _ E G₂ r₂ rm fun v h' tk k₃ G₃ r₃ => ret v h' tk ((k₁.trans k₂).trans k₃) G₃ r₃

theorem ev_call0 {func : Expr} {pos : Pos} {fv : Value} (hf : Ev C k env ρ X func (.val fv)) (hk : Kp C fv) (hc : Fn C k fv [] d)
    (he : eval (.Call func [] [] pos) env = (do callWith pos (← eval func env) [] (backTo pos (starEach [] env)) (backToKw pos (keywordEach [] env))) := by rfl) : Ev C k env ρ X (.Call func [] [] pos) d := by
  intro μ A s Q E G p rm ret
  rw [he]
  refine wpAny_bind (hf μ A s _ E G p rm fun fv' h₁ tk₁ k₁ G₁ r₁ => ?_)
  cases r₁
  show wpAny _ _ (callWith pos fv [] [] []) Q E _
  refine callWith_of (P := fun h => Good C μ h) rfl (fun h G => hk μ h G) (evalArgs_nil3 ⟨G₁, ?_⟩)
  exact hc [] μ A _ _ E G₁ .nil rm fun v h' tk k₃ G₃ r₃ => ret v h' tk (k₁.trans k₃) G₃ r₃

/- a tree that makes one object -/
theorem new_ret {μ : List Addr} {s : Shared} {o : Obj} {Q : Value → Shared → Prop} {tk : Nat} (G : Good C μ s.heap)
    (ret : ∀ v h' tk, KH s.heap h' → Good C μ h' → Dt C d v μ h' → Q v { s with heap := h', toks := tk })
    (hr : (hideAll (s.heap.push o) μ).get? s.heap.objs.size = some o → Ext (hideAll s.heap μ) (hideAll (s.heap.push o) μ) → Rep C (hideAll (s.heap.push o) μ) (.ref s.heap.objs.size) d) (hf : o.isFreed = false := by rfl) :
    Q (.ref s.heap.objs.size) { s with heap := s.heap.push o, toks := tk } := by
  have kx : Ext s.heap (s.heap.push o) := fun b o' e => Heap.get?_push_of_some _ e
  exact ret _ _ _ kx.kh (G.keep kx) (hr (hid_get (Heap.get?_push_size _ hf) G.new) (KH.hid G.sub kx.kh))

theorem repL_length {g : Heap} : ∀ {vs : List Value} {ds : List D}, RepL C g vs ds → vs.length = ds.length
  | _, [], ⟨⟩ => rfl
  | _, _ :: _, ⟨_, hr⟩ => by rw [List.length_cons, List.length_cons, repL_length hr]

theorem new_tuple {vs : List Value} (hz : ds.length ≤ 2 ^ 20) : Ok C k (DtL C ds vs) (newTuple vs) (Dt C (.tup ds)) := by
  intro μ A s Q E G p rm ret
  have hl := repL_length p
  refine wpAny_newObj_type (new_ret (tk := s.toks) G ret fun h1 h2 => .tup (vs := vs.toArray) ⟨_, h1, rfl, _, rfl⟩ ?_) (by show vs.toArray.size ≤ sizeLine; rw [List.size_toArray, hl]; exact Nat.le_trans hz (by decide))
  exact RepL.mono h2 p
theorem new_list {vs : List Value} (hz : ds.length ≤ 2 ^ 20) : Ok C k (DtL C ds vs) (newList vs) (Dt C (.list ds)) := by
  intro μ A s Q E G p rm ret
  have hl := repL_length p
  refine wpAny_newObj_type (new_ret (tk := s.toks) G ret fun h1 h2 => .list (vs := vs.toArray) ⟨_, h1⟩ ?_) (by show vs.toArray.size ≤ sizeLine; rw [List.size_toArray, hl]; exact Nat.le_trans hz (by decide))
  exact RepL.mono h2 p

theorem ev_tuple {es : List Expr} {n : Nat} {pos : Pos} (h : EvL C k env ρ X pos es ds) (hz : ds.length ≤ 2 ^ 20 := by simp) : Ev C k env ρ X (.Tuple es n pos) (.tup ds) := by
  intro μ A s Q E G p rm ret
  refine Tuple_ (h μ A s _ E G p rm fun vs h₁ tk₁ k₁ G₁ r₁ => ?_)
  exact new_tuple hz μ A _ _ E G₁ r₁ rm fun v h' tk k₃ G₃ r₃ => ret v h' tk (k₁.trans k₃) G₃ r₃
theorem ev_list {es : List Expr} {pos : Pos} (h : EvL C k env ρ X pos es ds) (hz : ds.length ≤ 2 ^ 20 := by simp) : Ev C k env ρ X (.List es pos) (.list ds) := by
  intro μ A s Q E G p rm ret
  refine List_ (h μ A s _ E G p rm fun vs h₁ tk₁ k₁ G₁ r₁ => ?_)
  exact new_list hz μ A _ _ E G₁ r₁ rm fun v h' tk k₃ G₃ r₃ => ret v h' tk (k₁.trans k₃) G₃ r₃

section
variable {a b : Int}
theorem b_add : Bin C k (binaryOp .Add) (.int a) (.int b) (.int (a + b)) := by
  rintro v₁ v₂ μ A s Q E G ⟨⟨⟩, ⟨⟩⟩ rm ret; (with_reducible refine PyProof.Rows.add_int ?_); exact ret _ s.heap _ KH.rfl G (.int _ _)
theorem b_sub : Bin C k (binaryOp .Sub) (.int a) (.int b) (.int (a - b)) := by
  rintro v₁ v₂ μ A s Q E G ⟨⟨⟩, ⟨⟩⟩ rm ret; (with_reducible refine PyProof.Rows.sub_int ?_); exact ret _ s.heap _ KH.rfl G (.int _ _)
theorem b_mul (hm : IntMulOk a b) : Bin C k (binaryOp .Mult) (.int a) (.int b) (.int (a * b)) := by
  rintro v₁ v₂ μ A s Q E G ⟨⟨⟩, ⟨⟩⟩ rm ret; (with_reducible refine PyProof.Rows.mul_int ?_ hm); exact ret _ s.heap _ KH.rfl G (.int _ _)
theorem b_mod (hb : b ≠ 0) : Bin C k (binaryOp .Mod) (.int a) (.int b) (.int (a.fmod b)) := by
  rintro v₁ v₂ μ A s Q E G ⟨⟨⟩, ⟨⟩⟩ rm ret; (with_reducible refine PyProof.Rows.mod_int hb ?_); exact ret _ s.heap _ KH.rfl G (.int _ _)
theorem b_fdiv (hb : b ≠ 0) (hs : b.natAbs < 1073741824) : Bin C k (binaryOp .FloorDiv) (.int a) (.int b) (.int (a.fdiv b)) := by
  rintro v₁ v₂ μ A s Q E G ⟨⟨⟩, ⟨⟩⟩ rm ret; (with_reducible refine floordiv_int hb ?_ (.inl (PyProof.noPylong_small hs))); exact ret _ s.heap _ KH.rfl G (.int _ _)
theorem b_shl (hn : 0 ≤ b) (hn2 : b ≤ 1000000) (ha : a.natAbs < 2 ^ 64) : Bin C k (binaryOp .LShift) (.int a) (.int b) (.int (a * 2 ^ b.toNat)) := by
  rintro v₁ v₂ μ A s Q E G ⟨⟨⟩, ⟨⟩⟩ rm ret; (with_reducible refine lshift_int_small hn hn2 ha ?_); exact ret _ s.heap _ KH.rfl G (.int _ _)
theorem b_shr (hn : 0 ≤ b) : Bin C k (binaryOp .RShift) (.int a) (.int b) (.int (a.fdiv (2 ^ b.toNat))) := by
  rintro v₁ v₂ μ A s Q E G ⟨⟨⟩, ⟨⟩⟩ rm ret; (with_reducible refine rshift_int hn ?_); exact ret _ s.heap _ KH.rfl G (.int _ _)
theorem b_xor : Bin C k (binaryOp .BitXor) (.int a) (.int b) (.int (Builtin.bitXor a b)) := by
  rintro v₁ v₂ μ A s Q E G ⟨⟨⟩, ⟨⟩⟩ rm ret; (with_reducible refine xor_int ?_); exact ret _ s.heap _ KH.rfl G (.int _ _)
theorem b_pow (hn : 0 ≤ b) (hn2 : b ≤ 1000000) (ha : a.natAbs < 2 ^ 64) : Bin C k (binaryOp .Pow) (.int a) (.int b) (.int (a ^ b.toNat)) := by
  rintro v₁ v₂ μ A s Q E G ⟨⟨⟩, ⟨⟩⟩ rm ret; (with_reducible refine pow_int_small hn hn2 ha ?_); exact ret _ s.heap _ KH.rfl G (.int _ _)
theorem c_eq : Bin C k (compareOp .Eq) (.int a) (.int b) (.bool (a == b)) := by
  rintro v₁ v₂ μ A s Q E G ⟨⟨⟩, ⟨⟩⟩ rm ret; (with_reducible refine PyProof.Rows.eq_int ?_); exact ret _ s.heap s.toks KH.rfl G (.bool _)
theorem c_ne : Bin C k (compareOp .NotEq) (.int a) (.int b) (.bool (a != b)) := by
  rintro v₁ v₂ μ A s Q E G ⟨⟨⟩, ⟨⟩⟩ rm ret; (with_reducible refine PyProof.Rows.ne_int ?_); exact ret _ s.heap s.toks KH.rfl G (.bool _)
theorem c_lt : Bin C k (compareOp .Lt) (.int a) (.int b) (.bool (decide (a < b))) := by
  rintro v₁ v₂ μ A s Q E G ⟨⟨⟩, ⟨⟩⟩ rm ret; (with_reducible refine PyProof.Rows.lt_int ?_); exact ret _ s.heap s.toks KH.rfl G (.bool _)
theorem c_le : Bin C k (compareOp .LtE) (.int a) (.int b) (.bool (decide (a ≤ b))) := by
  rintro v₁ v₂ μ A s Q E G ⟨⟨⟩, ⟨⟩⟩ rm ret; (with_reducible refine PyProof.Rows.le_int ?_); exact ret _ s.heap s.toks KH.rfl G (.bool _)
theorem c_ge : Bin C k (compareOp .GtE) (.int a) (.int b) (.bool (decide (b ≤ a))) := by
  rintro v₁ v₂ μ A s Q E G ⟨⟨⟩, ⟨⟩⟩ rm ret; (with_reducible refine PyProof.Rows.ge_int ?_); exact ret _ s.heap s.toks KH.rfl G (.bool _)
theorem u_neg : Una C k (unaryOp .USub) (.int a) (.int (-a)) := by
  rintro v₁ μ A s Q E G ⟨⟩ rm ret; (with_reducible refine PyProof.Rows.neg_int ?_); exact ret _ s.heap _ KH.rfl G (.int _ _)
theorem u_inv : Una C k (unaryOp .Invert) (.int a) (.int (Builtin.bitNot a)) := by
  rintro v₁ μ A s Q E G ⟨⟩ rm ret; (with_reducible refine invert_int ?_); exact ret _ s.heap _ KH.rfl G (.int _ _)
theorem t_int : UnaB C k truthy (.int a) (a != 0) := by
  rintro v₁ μ A s Q E G ⟨⟩ rm ret; (with_reducible refine PyProof.Rows.truthy_int ?_); exact ret _ s.heap _ KH.rfl G rfl
theorem t_bool {b : Bool} : UnaB C k truthy (.bool b) b := by
  rintro v₁ μ A s Q E G ⟨⟩ rm ret; (with_reducible refine wpAny_truthy_bool ?_); exact ret _ s.heap _ KH.rfl G rfl
end
end
end Mine

open PySem PySem.W PyProof.Rows PySem.Spec PySem.Calls
set_option Elab.async false
set_option maxRecDepth 100000
set_option linter.unusedVariables false
namespace Mine
section
variable {C : Cx} {k : Nat} {env : Env} {ρ : List (Str × D)} {X : SA C} {d : D} {ds : List D} {g : Heap}

theorem RepL.get : ∀ {ds : List D} {vs : List Value} {i : Nat} {d : D}, RepL C g vs ds → ds[i]? = some d → ∃ v, vs[i]? = some v ∧ Rep C g v d
  | [], _, _, _, _, e => by cases e
  | _ :: _, _, 0, _, ⟨h, r⟩, e => by simp only [List.getElem?_cons_zero] at e; cases e; exact ⟨_, by simp, h⟩
  | _ :: _, _, i + 1, _, ⟨h, r⟩, e => by
    simp only [List.getElem?_cons_succ] at e
    obtain ⟨v, e1, e2⟩ := RepL.get r e
    exact ⟨v, by simpa using e1, e2⟩
theorem RepL.append : ∀ {ds es : List D} {vs us : List Value}, RepL C g vs ds → RepL C g us es → RepL C g (vs ++ us) (ds ++ es)
  | [], _, _, _, ⟨⟩, h => h
  | _ :: _, _, _, _, ⟨h, r⟩, h' => .cons h (RepL.append r h')
theorem RepL.reverse {ds : List D} {vs : List Value} (h : RepL C g vs ds) : RepL C g vs.reverse ds.reverse := by
  induction ds generalizing vs with
  | nil => cases h; exact .nil
  | cons d ds ih =>
    cases h with
    | cons h r => rw [List.reverse_cons, List.reverse_cons]; exact (ih r).append (.cons h .nil)
theorem RepL.set : ∀ {ds : List D} {vs : List Value} {i : Nat} {v : Value} {d : D}, RepL C g vs ds → Rep C g v d → RepL C g (vs.set i v) (ds.set i d)
  | [], _, _, _, _, ⟨⟩, h' => .nil
  | _ :: _, _, 0, _, _, ⟨h, r⟩, h' => .cons h' r
  | _ :: _, _, i + 1, _, _, ⟨h, r⟩, h' => .cons h (RepL.set r h')

noncomputable def dget (kvs : List (Int × Int)) (k : Int) : Option Int := (kvs.find? fun kv => kv.1 = k).map (·.2)
noncomputable def dput (kvs : List (Int × Int)) (k c : Int) : List (Int × Int) :=
  if kvs.any (fun kv => kv.1 = k) then kvs.map (fun kv => if kv.1 = k then (kv.1, c) else kv) else kvs ++ [(k, c)]

theorem IntVals.get {l : List (Int × Value)} {kvs : List (Int × Int)} (h : IntVals l kvs) (x : Int) : (∃ c t, valueAt l x = some (.int c t) ∧ dget kvs x = some c) ∨ (valueAt l x = none ∧ dget kvs x = none) := by
  induction h with
  | nil => exact .inr ⟨rfl, rfl⟩
  | @cons k c t l l' _ ih =>
    by_cases e : k = x
    · exact .inl ⟨c, t, by simp [valueAt, e], by simp [dget, e]⟩
    · simp only [valueAt, dget, List.find?_cons, e, decide_false] at ih ⊢
      exact ih
theorem IntVals.any {l : List (Int × Value)} {kvs : List (Int × Int)} (h : IntVals l kvs) (x : Int) : l.any (fun kv => kv.1 = x) = kvs.any (fun kv => kv.1 = x) := by
  induction h with
  | nil => rfl
  | cons _ ih => simp only [List.any_cons, ih]
theorem IntVals.snoc {l : List (Int × Value)} {kvs : List (Int × Int)} (h : IntVals l kvs) (x c : Int) (t : Tok) : IntVals (l ++ [(x, .int c t)]) (kvs ++ [(x, c)]) := by
  induction h with
  | nil => exact .cons .nil
  | cons _ ih => exact .cons ih
theorem IntVals.put {l : List (Int × Value)} {kvs : List (Int × Int)} (h : IntVals l kvs) (x c : Int) (t : Tok) : IntVals (stored l x (.int c t)) (dput kvs x c) := by
  unfold stored dput
  rw [h.any]
  have hm : IntVals (l.map fun kv => if kv.1 = x then (kv.1, .int c t) else kv) (kvs.map fun kv => if kv.1 = x then (kv.1, c) else kv) := by
    induction h with
    | nil => exact .nil
    | @cons k c' t' l l' _ ih =>
      simp only [List.map_cons]
      by_cases e : k = x
      · simp only [e, if_true]; exact .cons ih
      · simp only [e, if_false]; exact .cons ih
  split
  · exact hm
  · exact h.snoc x c t
theorem IntVals.length {l : List (Int × Value)} {kvs : List (Int × Int)} (h : IntVals l kvs) : l.length = kvs.length := by
  induction h with
  | nil => rfl
  | cons _ ih => simp [ih]
theorem IntVals.keys {l : List (Int × Value)} {kvs : List (Int × Int)} (h : IntVals l kvs) : l.map (·.1) = kvs.map (·.1) := by
  induction h with
  | nil => rfl
  | cons _ ih => simp [ih]

/- an item -/
noncomputable def Sub (C : Cx) (k : Nat) (value slice : Expr) (d₁ d₂ d : D) : Prop := Bin C k (subscriptTail value slice) d₁ d₂ d

theorem ev_sub {value slice : Expr} {pos : Pos} {d₁ d₂ : D} (hl : Ev C k env ρ X value d₁) (hr : Ev C k env ρ X slice d₂) (ho : Sub C k value slice d₁ d₂ d) : Ev C k env ρ X (.Subscript value slice pos) d := by
  intro μ A s Q E G p rm ret
  refine Subscript_ (hl μ A s _ E G p rm fun v₁ h₁ tk₁ k₁ G₁ r₁ => hr μ A _ _ E G₁ (Cn.stable _ _ _ G k₁ G₁ p) rm fun v₂ h₂ tk₂ k₂ G₂ r₂ => ?_)
  exact ho v₁ v₂ μ A _ _ E G₂ ⟨Dt.stable _ _ _ _ G₁ k₂ G₂ r₁, r₂⟩ rm fun v h' tk k₃ G₃ r₃ => ret v h' tk ((k₁.trans k₂).trans k₃) G₃ r₃

theorem sub_list {value slice : Expr} {i : Int} (h0 : 0 ≤ i) (h1 : i < 2 ^ 63) (hx : ds[i.toNat]? = some d) (hs : ∀ o i, subscripted slice false o i = operate [o, i] (getItem o i) := by intro _ _; rfl) : Sub C k value slice (.list ds) (.int i) d := by
  rintro v₁ v₂ μ A s Q E G ⟨⟨⟩, ⟨⟩⟩ rm ret
  rename_i a vs hl hr u
  obtain ⟨v, e1, e2⟩ := RepL.get hr hx
  have hl' := hl.isList.at fun o e => hid_ext μ s.heap _ o e
  have hx' : vs[i.toNat]? = some v := by rw [← Array.getElem?_toList]; exact e1
  exact tail_any hl'.typeIs slot_list_getitem.lookup (wpAny_getItem_list hl' h0 h1 hx' (ret v s.heap s.toks KH.rfl G e2)) (hs _ _)

theorem seqIndex_ok {i : Int} {n : Nat} (h0 : 0 ≤ i) (h1 : i < n) : seqIndex? i n = some i.toNat := by
  unfold seqIndex?
  simp only [show ¬ i < 0 by lia, if_false]
  simp
  lia

theorem sub_tup {value slice : Expr} {i : Int} (h0 : 0 ≤ i) (h1 : i < 2 ^ 63) (hx : ds[i.toNat]? = some d) (hs : ∀ o i, subscripted slice false o i = operate [o, i] (getItem o i) := by intro _ _; rfl) : Sub C k value slice (.tup ds) (.int i) d := by
  rintro v₁ v₂ μ A s Q E G ⟨⟨⟩, ⟨⟩⟩ rm ret
  rename_i a vs hl hr u
  obtain ⟨v, e1, e2⟩ := RepL.get hr hx
  have hl' : IsTup s.heap a vs := hl.at fun o e => hid_ext μ s.heap _ o e
  have hx' : vs[i.toNat]? = some v := by rw [← Array.getElem?_toList]; exact e1
  have hj : seqIndex? i vs.size = some i.toNat := seqIndex_ok h0 (by have := (Array.getElem?_eq_some_iff.mp hx').1; lia)
  exact tail_any hl'.typeIs slot_tuple_getitem.lookup (getItem_tuple hl' (by lia) h1 hj hx' (ret v s.heap s.toks KH.rfl G e2)) (hs _ _)

theorem isInt_self (x : Int) (t : Tok) : (intKind C.prog C.w).is x (.int x t) = true := by simp [intKind, Value.isInt]

theorem sub_dict {value slice : Expr} {kvs : List (Int × Int)} {i c : Int} (hx : dget kvs i = some c) (hs : ∀ o i, subscripted slice false o i = operate [o, i] (getItem o i) := by intro _ _; rfl) : Sub C k value slice (.dict kvs) (.int i) (.int c) := by
  rintro v₁ v₂ μ A s Q E G ⟨⟨⟩, ⟨⟩⟩ rm ret
  rename_i a l hd n hi u
  have hd' := hd.keep (hid_ext μ s.heap)
  rcases hi.get i with ⟨c', t, e1, e2⟩ | ⟨_, e2⟩
  · rw [hx] at e2; cases e2
    exact tail_any hd'.typeIs slot_dict_getitem.lookup (wpAny_getItem_of (isInt_self i u) hd'.mapOf e1 (ret _ s.heap _ KH.rfl G (.int c t))) (hs _ _)
  · rw [hx] at e2; cases e2

theorem c_in_dict {kvs : List (Int × Int)} {i : Int} : Bin C k (compareOp .In) (.int i) (.dict kvs) (.bool (dget kvs i).isSome) := by
  rintro v₁ v₂ μ A s Q E G ⟨⟨⟩, ⟨⟩⟩ rm ret
  rename_i t a l hd n hi
  have hd' := hd.keep (hid_ext μ s.heap)
  have e : (valueAt l i).isSome = (dget kvs i).isSome := by
    rcases hi.get i with ⟨c', t, e1, e2⟩ | ⟨e1, e2⟩ <;> rw [e1, e2] <;> rfl
  (with_reducible refine wpAny_in_of (isInt_self i t) n hd'.mapOf ?_)
  rw [e]
  exact ret _ s.heap _ KH.rfl G (.bool _)

theorem f_len {ds : List D} (hz : ds.length ≤ 2 ^ 20) : Fn C k (.builtin "len") [.list ds] (.int ds.length) := by
  rintro vs μ A s Q E G ⟨⟩ rm ret
  rename_i v vs h r
  cases r
  cases h
  rename_i a vs hl hr
  have hn := repL_length hr
  rw [Array.length_toList] at hn
  have hl' := hl.isList.at fun o e => hid_ext μ s.heap _ o e
  refine Calls.call_len_list hl' (by lia) ?_
  rw [hn]
  exact ret _ s.heap _ KH.rfl G (.int _ _)

theorem f_lenS {ds : List D} (hz : ds.length ≤ 2 ^ 20) : Fn C k (.builtin "len") [.scr ds] (.int ds.length) := by
  rintro vs μ A s Q E G ⟨⟩ rm ret
  rename_i v vs h r
  cases r
  cases h
  rename_i a vs hl hr
  have hn := repL_length hr
  rw [Array.length_toList] at hn
  have hl' := hl.at fun o e => hid_ext μ s.heap _ o e
  refine Calls.call_len_list hl' (by lia) ?_
  rw [hn]
  exact ret _ s.heap _ KH.rfl G (.int _ _)

theorem f_range1 {n : Int} : Fn C k (.type "range") [.int n] (.rng 0 n 1) := by
  rintro vs μ A s Q E G ⟨⟩ rm ret
  rename_i v vs h r
  cases r
  cases h
  refine call_range_1 (new_ret G ret fun h1 h2 => .rng h1)
theorem f_range3 {a b c : Int} (hc : c ≠ 0) (hs : c.natAbs < 1073741824) : Fn C k (.type "range") [.int a, .int b, .int c] (.rng a b c) := by
  rintro vs μ A s Q E G ⟨⟩ rm ret
  rename_i v vs h r
  rcases r with ⟨h2, ⟨h3, ⟨⟩⟩⟩
  cases h; cases h2; cases h3
  refine call_range_3 hc (new_ret G ret fun h1 h2 => .rng h1) (.inl (PyProof.noPylong_small hs))

theorem f_divmod {a b : Int} (hb : b ≠ 0) (hs : b.natAbs < 1073741824) : Fn C k (.builtin "divmod") [.int a, .int b] (.tup [.int (a.fdiv b), .int (a.fmod b)]) := by
  rintro vs μ A s Q E G ⟨⟩ rm ret
  rename_i v vs h r
  rcases r with ⟨h2, ⟨⟩⟩
  cases h; cases h2
  refine divmod_int hb (new_ret G ret fun h1 h2 => .tup ⟨_, h1, rfl, _, rfl⟩ (.cons (.int _ _) (.cons (.int _ _) .nil))) (.inl (PyProof.noPylong_small hs))
end
end Mine

open PySem PySem.W PyProof.Rows PySem.Spec PySem.Calls
set_option Elab.async false
set_option maxRecDepth 100000
set_option linter.unusedVariables false
namespace Mine

inductive OD where
  | list (ds : List D)
  | dict (kvs : List (Int × Int))
  | seq (ds : List D)

noncomputable def OwnAt (C : Cx) (g h : Heap) (a : Addr) : OD → Prop
  | .list ds => ∃ vs, h.PlainList a vs ∧ RepL C g vs.toList ds
  | .dict kvs => ∃ l, h.DictOf (intKind C.prog C.w) a l ∧ (a == sysModules) = false ∧ IntVals l kvs
  | .seq ds => ∃ vs, h.IsList a vs ∧ RepL C g vs.toList ds

section
variable {C : Cx} {k : Nat} {env : Env} {cs : List (Str × Addr)} {ρ ρ' : List (Str × D)} {own : List (Addr × OD)} {b : Heap} {f s : Shared} {μ₀ W : List Addr} {d : D} {h' : Heap} {tk : Nat}

theorem OwnAt.mono {g g' h h' : Heap} {a : Addr} (x : Ext g g') (e : ∀ o, h.get? a = some o → h'.get? a = some o) : ∀ {o : OD}, OwnAt C g h a o → OwnAt C g' h' a o
  | .list ds, ⟨vs, p, r⟩ => ⟨vs, p.at e, RepL.mono x r⟩
  | .dict kvs, ⟨l, p, r⟩ => ⟨l, p.at e, r⟩
  | .seq ds, ⟨vs, p, r⟩ => ⟨vs, p.at e, RepL.mono x r⟩
theorem OwnAt.here {g h : Heap} {a : Addr} : ∀ {o : OD}, OwnAt C g h a o → ∃ x, h.get? a = some x
  | .list ds, ⟨vs, ⟨n, p⟩, r⟩ => ⟨_, p⟩
  | .dict kvs, ⟨l, ⟨o, _, _, p, _⟩, r⟩ => ⟨_, p⟩
  | .seq ds, ⟨vs, ⟨o, p, _⟩, r⟩ => ⟨_, p⟩

noncomputable def OwnX (C : Cx) (own : List (Addr × OD)) : SA C := ⟨fun μ h => ∀ p ∈ own, p.1 ∉ TB ∧ OwnAt C (hideAll h μ) h p.1 p.2,
  fun μ h h' G k G' r p hp => ⟨(r p hp).1, (r p hp).2.mono (KH.hid G.sub k) fun o e => k _ o (r p hp).1 e⟩⟩

/-- what a frame may write -/
noncomputable def Wl (env : Env) (cs : List (Str × Addr)) (own : List (Addr × OD)) : List Addr := env.locals :: (cs.map (·.2) ++ own.map (·.1))

structure Co (C : Cx) (b : Heap) (f : Shared) (μ₀ W : List Addr) (s : Shared) : Prop where
  same : ∃ h tk, s = { f with heap := h, toks := tk }
  good : Good C (W ++ μ₀) s.heap
  tb : ∀ P ∈ TB, P ∈ μ₀
  keep : Ext b s.heap
  btb : ∀ P ∈ TB, b.get? P = none
  nodup : W.Nodup
  priv : ∀ a ∈ W, b.get? a = none ∧ a ∉ TB
  disj : ∀ a ∈ W, a ∉ μ₀

structure Fm (C : Cx) (b : Heap) (f : Shared) (μ₀ : List Addr) (env : Env) (cs : List (Str × Addr)) (ρ : List (Str × D)) (own : List (Addr × OD)) (s : Shared) : Prop where
  co : Co C b f μ₀ (Wl env cs own) s
  envF : EnvF env
  ns : ∃ m, s.heap.Ns env.locals m ∧ ∀ x d, ρ.lookup x = some d → env.kindOf x = some .local → ∃ v, m x = some v ∧ Rep C (hideAll s.heap (Wl env cs own ++ μ₀)) v d
  cell : ∀ x c, cs.lookup x = some c → env.cells.lookup x = some c ∧ ∃ ov, s.heap.IsCell c ov ∧ ∀ d, ρ.lookup x = some d → env.kindOf x = some .cell → ∃ v, ov = some v ∧ Rep C (hideAll s.heap (Wl env cs own ++ μ₀)) v d
  kinds : ∀ x d, ρ.lookup x = some d → env.kindOf x = some .local ∨ (env.kindOf x = some .cell ∧ ∃ c, cs.lookup x = some c) ∨
    ((env.kindOf x = some .free ∨ env.kindOf x = some .cell) ∧ (x == ("__classdict__" : Str)) = false ∧ ∃ c v, env.cells.lookup x = some c ∧ c ∉ Wl env cs own ∧ c ∉ TB ∧ s.heap.IsCell c (some v) ∧ Rep C (hideAll s.heap (Wl env cs own ++ μ₀)) v d)
  ownd : ∀ p ∈ own, OwnAt C (hideAll s.heap (Wl env cs own ++ μ₀)) s.heap p.1 p.2

/-- the heap moved by a tree that keeps what stands -/
theorem Co.pure (F : Co C b f μ₀ W s) (kh : KH s.heap h') (G : Good C (W ++ μ₀) h') : Co C b f μ₀ W { s with heap := h', toks := tk } where
  same := let ⟨h, t, e⟩ := F.same; ⟨h', tk, by rw [e]⟩
  good := G
  tb := F.tb
  keep := fun x o e => kh x o (fun m => by rw [F.btb x m] at e; cases e) (F.keep x o e)
  btb := F.btb
  nodup := F.nodup
  priv := F.priv
  disj := F.disj

theorem Fm.pure (F : Fm C b f μ₀ env cs ρ own s) (kh : KH s.heap h') (G : Good C (Wl env cs own ++ μ₀) h') : Fm C b f μ₀ env cs ρ own { s with heap := h', toks := tk } := by
  have gx := KH.hid F.co.good.sub kh
  have up : ∀ a ∈ Wl env cs own, ∀ o, s.heap.get? a = some o → h'.get? a = some o := fun a ha o e => kh a o (F.co.priv a ha).2 e
  have cup : ∀ x c, cs.lookup x = some c → c ∈ Wl env cs own := fun x c e => List.mem_cons_of_mem _ (List.mem_append_left _ (List.mem_map.mpr ⟨(x, c), mem_of_lookup e, rfl⟩))
  refine ⟨F.co.pure kh G, F.envF, ?_, fun x c e => ?_, fun x d e => ?_, fun p hp => ?_⟩
  · obtain ⟨m, h1, h2⟩ := F.ns
    exact ⟨m, h1.at' (up _ (List.mem_cons_self ..)), fun x d e hk => let ⟨v, e1, e2⟩ := h2 x d e hk; ⟨v, e1, e2.mono gx⟩⟩
  · obtain ⟨e1, ov, ⟨o, c1, c2⟩, h2⟩ := F.cell x c e
    exact ⟨e1, ov, ⟨o, up _ (cup x c e) _ c1, c2⟩, fun d ed hk => let ⟨v, e2, e3⟩ := h2 d ed hk; ⟨v, e2, e3.mono gx⟩⟩
  · rcases F.kinds x d e with h | h | ⟨h1, h2, c, v, h3, h4, h5, h6, h7⟩
    · exact .inl h
    · exact .inr (.inl h)
    · exact .inr (.inr ⟨h1, h2, c, v, h3, h4, h5, let ⟨o, c1, c2⟩ := h6; ⟨o, kh c o h5 c1, c2⟩, h7.mono gx⟩)
  · exact (F.ownd p hp).mono gx (up _ (List.mem_cons_of_mem _ (List.mem_append_right _ (List.mem_map.mpr ⟨p, hp, rfl⟩))))

theorem Fm.sees (F : Fm C b f μ₀ env cs ρ own s) : Cn C env ρ (OwnX C own) (Wl env cs own ++ μ₀) s.heap := by
  refine ⟨fun x d e => ?_, fun p hp => ⟨(F.co.priv _ (List.mem_cons_of_mem _ (List.mem_append_right _ (List.mem_map.mpr ⟨p, hp, rfl⟩)))).2, F.ownd p hp⟩⟩
  rcases F.kinds x d e with hk | ⟨hk, c, hc⟩ | ⟨hk, hn, c, v, hc, _, hct, hb, r⟩
  · obtain ⟨m, h1, h2⟩ := F.ns
    obtain ⟨v, e1, e2⟩ := h2 x d e hk
    have h1' : (hideAll s.heap TB).Ns env.locals m := h1.at' fun o q => hid_get q (F.co.priv _ (List.mem_cons_self ..)).2
    exact ⟨v, e2, fun A Q E s' kx q => wpAny_loadName_local F.envF.kind hk (h1'.keeps kx) e1 q, fun h => by rw [hk] at h; rcases h with h | h <;> cases h⟩
  · obtain ⟨e1, ov, ⟨o, c1, c2⟩, h2⟩ := F.cell x c hc
    obtain ⟨v, rfl, e3⟩ := h2 d e hk
    have hcW : c ∈ Wl env cs own := List.mem_cons_of_mem _ (List.mem_append_left _ (List.mem_map.mpr ⟨(x, c), mem_of_lookup hc, rfl⟩))
    exact ⟨v, e3, fun A Q E s' kx q => wpAny_loadName_cell F.envF.kind hk e1 ⟨o, kx _ _ (hid_get c1 (F.co.priv _ hcW).2), c2⟩ q, fun _ => ⟨c, e1, (F.co.priv _ hcW).2, o, c1, c2⟩⟩
  · obtain ⟨o, c1, c2⟩ := hb
    refine ⟨v, r, fun A Q E s' kx q => ?_, fun _ => ⟨c, hc, hct, o, c1, c2⟩⟩
    rcases hk with hk | hk
    · exact wpAny_loadName_free F.envF.kind hk hc ⟨o, kx _ _ (hid_get c1 hct), c2⟩ q hn
    · exact wpAny_loadName_cell F.envF.kind hk hc ⟨o, kx _ _ (hid_get c1 hct), c2⟩ q

theorem Fm.weak (F : Fm C b f μ₀ env cs ρ own s) (h : ∀ x d, ρ'.lookup x = some d → ρ.lookup x = some d) : Fm C b f μ₀ env cs ρ' own s :=
  ⟨F.co, F.envF, let ⟨m, h1, h2⟩ := F.ns; ⟨m, h1, fun x d e hk => h2 x d (h x d e) hk⟩, fun x c e => let ⟨e1, ov, e2, e3⟩ := F.cell x c e; ⟨e1, ov, e2, fun d ed hk => e3 d (h x d ed) hk⟩, fun x d e => F.kinds x d (h x d e), F.ownd⟩

/-- one written address turned -/
theorem Co.upd {a : Addr} (F : Co C b f μ₀ W s) (ha : a ∈ W) (hs : Heap.SameBut a s.heap h') (hx : ∃ o, h'.get? a = some o) : Co C b f μ₀ W { s with heap := h', toks := tk } ∧ Ext (hideAll s.heap (W ++ μ₀)) (hideAll h' (W ++ μ₀)) := by
  have gx : Ext (hideAll s.heap (W ++ μ₀)) (hideAll h' (W ++ μ₀)) := hid_mono fun x o n e => ⟨(hs.2 x fun q => n (q ▸ List.mem_append_left _ ha)).trans e, n⟩
  refine ⟨⟨let ⟨h, t, e⟩ := F.same; ⟨h', tk, by rw [e]⟩, F.good.turn gx F.good.sub (fun x hx' => ?_) fun P hP o e => ?_, F.tb, fun x o e => ?_, F.btb, F.nodup, F.priv, F.disj⟩, gx⟩
  · by_cases q : x = a
    · exact q ▸ hx
    · obtain ⟨o, e⟩ := F.good.low x hx'
      exact ⟨o, (hs.2 x q).trans e⟩
  · exact (hs.2 P fun q => (F.priv a ha).2 (q ▸ hP)).trans e
  · exact (hs.2 x fun q => by rw [q, (F.priv a ha).1] at e; cases e).trans (F.keep x o e)

theorem cs_inj {cs : List (Str × Addr)} {x y : Str} {c : Addr} (hn : (cs.map (·.2)).Nodup) (hx : cs.lookup x = some c) (hy : cs.lookup y = some c) : x = y := by
  have h1 := mem_of_lookup hx
  have h2 := mem_of_lookup hy
  clear hx hy
  induction cs with
  | nil => cases h1
  | cons p r ih =>
    rw [List.map_cons, List.nodup_cons] at hn
    rcases List.mem_cons.mp h1 with e1 | h1 <;> rcases List.mem_cons.mp h2 with e2 | h2
    · rw [← e2] at e1; exact (Prod.mk.inj e1).1
    · exact absurd (List.mem_map.mpr ⟨_, h2, by rw [← e1]⟩) hn.1
    · exact absurd (List.mem_map.mpr ⟨_, h1, by rw [← e2]⟩) hn.1
    · exact ih hn.2 h1 h2

theorem Fm.store {x : Str} {v : Value} {A : Around} {Q : Unit → Shared → Prop} {E : Value → Shared → Prop} (F : Fm C b f μ₀ env cs ρ own s) (hx : env.kindOf x = some .local ∨ (env.kindOf x = some .cell ∧ ∃ c, cs.lookup x = some c))
    (r : Rep C (hideAll s.heap (Wl env cs own ++ μ₀)) v d)
    (ret : ∀ h' tk, Fm C b f μ₀ env cs ((x, d) :: ρ) own { s with heap := h', toks := tk } → Q () { s with heap := h', toks := tk }) : wpAny (model C.prog C.w) A (storeName env x v) Q E s := by
  have hnd := F.co.nodup
  have hL : env.locals ∈ Wl env cs own := List.mem_cons_self ..
  have cup : ∀ x c, cs.lookup x = some c → c ∈ Wl env cs own ∧ c ≠ env.locals := fun x c e => by
    have hm : c ∈ cs.map (·.2) ++ own.map (·.1) := List.mem_append_left _ (List.mem_map.mpr ⟨(x, c), mem_of_lookup e, rfl⟩)
    exact ⟨List.mem_cons_of_mem _ hm, fun q => (List.nodup_cons.mp hnd).1 (q ▸ hm)⟩
  have oup : ∀ p ∈ own, p.1 ∈ Wl env cs own ∧ p.1 ≠ env.locals := fun p hp => by
    have hm : p.1 ∈ cs.map (·.2) ++ own.map (·.1) := List.mem_append_right _ (List.mem_map.mpr ⟨p, hp, rfl⟩)
    exact ⟨List.mem_cons_of_mem _ hm, fun q => (List.nodup_cons.mp hnd).1 (q ▸ hm)⟩
  have look : ∀ y d', ((x, d) :: ρ).lookup y = some d' → (y = x ∧ d' = d) ∨ (y ≠ x ∧ ρ.lookup y = some d') := fun y d' e => by
    rw [List.lookup_cons] at e
    by_cases q : y = x
    · subst q; simp at e; exact .inl ⟨rfl, e.symm⟩
    · rw [show (y == x) = false from beq_eq_false_iff_ne.mpr q] at e; exact .inr ⟨q, e⟩
  rcases hx with hk | ⟨hk, c, hc⟩
  · obtain ⟨m, h1, h2⟩ := F.ns
    refine wpAny_storeName_local hk h1 (fun h' hn' hs' => ret h' _ ?_) (by rw [F.envF.kind]; rfl)
    obtain ⟨co, gx⟩ := F.co.upd (tk := s.toks + 1) hL hs' (let ⟨o, _, _, e, _⟩ := hn'; ⟨o, e⟩)
    refine ⟨co, F.envF, ⟨_, hn', fun y d' e hky => ?_⟩, fun y c e => ?_, fun y d' e => ?_, fun p hp => ?_⟩
    · rcases look y d' e with ⟨rfl, rfl⟩ | ⟨q, e⟩
      · exact ⟨v, by simp, r.mono gx⟩
      · obtain ⟨v', e1, e2⟩ := h2 y d' e hky
        exact ⟨v', by simp [q, e1], e2.mono gx⟩
    · obtain ⟨e1, ov, c1, c2⟩ := F.cell y c e
      refine ⟨e1, ov, c1.sameBut hs' (cup y c e).2, fun d' ed hky => ?_⟩
      rcases look y d' ed with ⟨rfl, rfl⟩ | ⟨q, ed⟩
      · rw [hk] at hky; cases hky
      · obtain ⟨v', e2, e3⟩ := c2 d' ed hky
        exact ⟨v', e2, e3.mono gx⟩
    · rcases look y d' e with ⟨rfl, rfl⟩ | ⟨q, e⟩
      · exact .inl hk
      · rcases F.kinds y d' e with h | h | ⟨h1, h2, c, v, h3, h4, h5, h6, h7⟩
        · exact .inl h
        · exact .inr (.inl h)
        · exact .inr (.inr ⟨h1, h2, c, v, h3, h4, h5, h6.sameBut hs' fun q => h4 (q ▸ hL), h7.mono gx⟩)
    · exact (F.ownd p hp).mono gx fun o e => (hs'.2 _ (oup p hp).2).trans e
  · obtain ⟨e1, ov, c1, c2⟩ := F.cell x c hc
    refine wpAny_storeName_cell F.envF.kind hk e1 c1 fun h' hc' hs' => ret h' s.toks ?_
    obtain ⟨co, gx⟩ := F.co.upd (tk := s.toks) (cup x c hc).1 hs' (let ⟨o, e, _⟩ := hc'; ⟨o, e⟩)
    have hdis : (cs.map (·.2)).Nodup ∧ ∀ p ∈ own, p.1 ∉ cs.map (·.2) := by
      have h := (List.nodup_append.mp (List.nodup_cons.mp hnd).2)
      exact ⟨h.1, fun p hp hm => h.2.2 _ hm _ (List.mem_map.mpr ⟨p, hp, rfl⟩) rfl⟩
    refine ⟨co, F.envF, ?_, fun y c' e => ?_, fun y d' e => ?_, fun p hp => ?_⟩
    · obtain ⟨m, h1, h2⟩ := F.ns
      refine ⟨m, h1.sameBut hs' (Ne.symm (cup x c hc).2), fun y d' e hky => ?_⟩
      rcases look y d' e with ⟨rfl, rfl⟩ | ⟨q, e⟩
      · rw [hk] at hky; cases hky
      · obtain ⟨v', e1, e2⟩ := h2 y d' e hky
        exact ⟨v', e1, e2.mono gx⟩
    · obtain ⟨e1', ov', c1', c2'⟩ := F.cell y c' e
      by_cases q : y = x
      · subst q
        rw [hc] at e; cases e
        refine ⟨e1, some v, hc', fun d' ed hky => ?_⟩
        rcases look y d' ed with ⟨_, rfl⟩ | ⟨q, ed⟩
        · exact ⟨v, rfl, r.mono gx⟩
        · exact absurd rfl q
      · have hcc : c' ≠ c := fun h => q (cs_inj hdis.1 e (h ▸ hc))
        refine ⟨e1', ov', c1'.sameBut hs' hcc, fun d' ed hky => ?_⟩
        rcases look y d' ed with ⟨q', _⟩ | ⟨_, ed⟩
        · exact absurd q' q
        · obtain ⟨v', e2, e3⟩ := c2' d' ed hky
          exact ⟨v', e2, e3.mono gx⟩
    · rcases look y d' e with ⟨rfl, rfl⟩ | ⟨q, e⟩
      · exact .inr (.inl ⟨hk, c, hc⟩)
      · rcases F.kinds y d' e with h | h | ⟨h1, h2, c', v', h3, h4, h5, h6, h7⟩
        · exact .inl h
        · exact .inr (.inl h)
        · exact .inr (.inr ⟨h1, h2, c', v', h3, h4, h5, h6.sameBut hs' fun q => h4 (q ▸ (cup x c hc).1), h7.mono gx⟩)
    · exact (F.ownd p hp).mono gx fun o e => (hs'.2 p.1 fun (h : p.1 = c) => hdis.2 p hp (by rw [h]; exact List.mem_map.mpr ⟨(x, c), mem_of_lookup hc, rfl⟩)).trans e
end
end Mine

open PySem PySem.W PyProof.Rows PySem.Spec PySem.Calls
set_option Elab.async false
set_option maxRecDepth 100000
set_option linter.unusedVariables false
namespace Mine

section
variable {C : Cx} {k : Nat} {A : Around} {env : Env} {cs : List (Str × Addr)} {ρ ρ' : List (Str × D)} {own : List (Addr × OD)} {b : Heap} {f s s₀ : Shared} {μ μ₀ W : List Addr} {d : D} {h' : Heap} {tk : Nat}
  {Q : Flow → Shared → Prop} {E : Value → Shared → Prop} {rest : List Stmt}

noncomputable abbrev Kd (env : Env) (cs : List (Str × Addr)) (x : Str) : Prop := env.kindOf x = some .local ∨ (env.kindOf x = some .cell ∧ ∃ c, cs.lookup x = some c)

/-- what is wanted behind a statement that may leave -/
noncomputable def Nx (C : Cx) (A : Around) (env : Env) (rest : List Stmt) (Q : Flow → Shared → Prop) (E : Value → Shared → Prop) : Flow → Shared → Prop
  | .next, s => wpAny (model C.prog C.w) A (execs rest env) Q E s
  | f, s => Q f s

theorem x_cons {st : Stmt} (h : wpAny (model C.prog C.w) A (exec st env) (Nx C A env rest Q E) E s) : wpAny (model C.prog C.w) A (execs (st :: rest) env) Q E s :=
  wpAny_execs_cons (wpAny_mono h (fun fl s' h' => by cases fl <;> exact h') fun _ _ e => e)

theorem Fm.ev {e : Expr} {Q : Value → Shared → Prop} (F : Fm C b f μ₀ env cs ρ own s) (rm : Room k A) (he : Ev C k env ρ (OwnX C own) e d)
    (ret : ∀ v s', Fm C b f μ₀ env cs ρ own s' → KH s.heap s'.heap → (∃ h tk, s' = { s with heap := h, toks := tk }) → Rep C (hideAll s'.heap (Wl env cs own ++ μ₀)) v d → Q v s') : wpAny (model C.prog C.w) A (eval e env) Q E s :=
  he _ A s Q E F.co.good F.sees rm fun v h' tk kh G r => ret v _ (F.pure kh G) kh ⟨h', tk, rfl⟩ r
theorem Fm.evb {e : Expr} {c : Bool} {Q : Bool → Shared → Prop} (F : Fm C b f μ₀ env cs ρ own s) (rm : Room k A) (he : EvB C k env ρ (OwnX C own) e c)
    (ret : ∀ s', Fm C b f μ₀ env cs ρ own s' → Q c s') : wpAny (model C.prog C.w) A (isTrue e env (eval e env)) Q E s :=
  he _ A s Q E F.co.good F.sees rm fun v h' tk kh G r => by cases r; exact ret _ (F.pure kh G)

theorem x_assign {x : Str} {p pos : Pos} {e : Expr} (F : Fm C b f μ₀ env cs ρ own s) (rm : Room k A) (he : Ev C k env ρ (OwnX C own) e d) (hx : Kd env cs x)
    (cont : ∀ s', Fm C b f μ₀ env cs ((x, d) :: ρ) own s' → wpAny (model C.prog C.w) A (execs rest env) Q E s')
    (hs : swapsWith e (some (.Name x p)) pos.line env = pure false := by rfl) : wpAny (model C.prog C.w) A (execs (.Assign [.Name x p] e pos :: rest) env) Q E s := by
  refine x_cons (wpAny_Assign_Name (F.ev rm he fun v s' F' _ _ r => ?_) hs)
  exact F'.store hx r fun h' tk F'' => cont _ F''

theorem x_return {pos : Pos} {e : Expr} (F : Fm C b f μ₀ env cs ρ own s) (rm : Room k A) (he : Ev C k env ρ (OwnX C own) e d)
    (ret : ∀ v s', Fm C b f μ₀ env cs ρ own s' → Rep C (hideAll s'.heap (Wl env cs own ++ μ₀)) v d → Q (.ret v) s') : wpAny (model C.prog C.w) A (execs (.Return (some e) pos :: rest) env) Q E s := by
  refine x_cons (wpAny_Return_some (F.ev rm he fun v s' F' _ _ r => ?_))
  exact ret v s' F' r

theorem x_if {t : Expr} {body orelse : List Stmt} {pos : Pos} {c : Bool} (F : Fm C b f μ₀ env cs ρ own s) (rm : Room k A) (ht : EvB C k env ρ (OwnX C own) t c)
    (h1 : c = true → ∀ s', Fm C b f μ₀ env cs ρ own s' → wpAny (model C.prog C.w) A (execs body env) (Nx C A env rest Q E) E s')
    (h2 : c = false → ∀ s', Fm C b f μ₀ env cs ρ own s' → wpAny (model C.prog C.w) A (execs orelse env) (Nx C A env rest Q E) E s') : wpAny (model C.prog C.w) A (execs (.If t body orelse pos :: rest) env) Q E s := by
  refine x_cons (wpAny_If (F.evb rm ht fun s' F' => ?_))
  cases c with
  | true => exact h1 rfl s' F'
  | false => exact h2 rfl s' F'
theorem x_nil (h : Q .next s) : wpAny (model C.prog C.w) A (execs [] env) Q E s := wpAny_execs_nil h
/-- a test that fails, nothing else -/
theorem x_if_no {t : Expr} {body : List Stmt} {pos : Pos} (F : Fm C b f μ₀ env cs ρ own s) (rm : Room k A) (ht : EvB C k env ρ (OwnX C own) t false)
    (cont : ∀ s', Fm C b f μ₀ env cs ρ own s' → wpAny (model C.prog C.w) A (execs rest env) Q E s') : wpAny (model C.prog C.w) A (execs (.If t body [] pos :: rest) env) Q E s :=
  x_if F rm ht (fun e => nomatch e) fun _ s' F' => x_nil (cont s' F')

/-- what a call hands back -/
noncomputable def Ret (C : Cx) (s₀ : Shared) (μ : List Addr) (d : D) (fl : Flow) (s' : Shared) : Prop :=
  ∃ v h' tk, (match fl with | .ret v => v | _ => Value.none) = v ∧ s' = { s₀ with heap := h', toks := tk } ∧ KH s₀.heap h' ∧ Good C μ h' ∧ Dt C d v μ h'

theorem Fm.leave (F : Fm C (hideAll s₀.heap TB) s₀ μ env cs ρ own s) : ∃ h' tk, s = { s₀ with heap := h', toks := tk } ∧ KH s₀.heap h' ∧ Good C μ h' ∧ Ext (hideAll h' (Wl env cs own ++ μ)) (hideAll h' μ) := by
  obtain ⟨h, tk, rfl⟩ := F.co.same
  refine ⟨h, tk, rfl, fun x o n e => F.co.keep x o (hid_get e n), F.co.good.less (fun a ha => List.mem_append_right _ ha) F.co.tb, hid_less fun a ha => List.mem_append_right _ ha⟩
theorem Fm.ret {v : Value} (F : Fm C (hideAll s₀.heap TB) s₀ μ env cs ρ own s) (r : Rep C (hideAll s.heap (Wl env cs own ++ μ)) v d) : Ret C s₀ μ d (.ret v) s := by
  obtain ⟨h', tk, rfl, k, G, x⟩ := F.leave
  exact ⟨v, h', tk, rfl, rfl, k, G, r.mono x⟩
/-- a list of the call's own is handed back -/
theorem Fm.retOwn {a : Addr} {ds : List D} (F : Fm C (hideAll s₀.heap TB) s₀ μ env cs ρ own s) (ho : (a, OD.list ds) ∈ own) : Ret C s₀ μ (.list ds) (.ret (.ref a)) s := by
  obtain ⟨vs, p, r⟩ := F.ownd _ ho
  have hd := F.co.disj a (List.mem_cons_of_mem _ (List.mem_append_right _ (List.mem_map.mpr ⟨_, ho, rfl⟩)))
  obtain ⟨h', tk, rfl, k, G, x⟩ := F.leave
  exact ⟨_, h', tk, rfl, rfl, k, G, .list (p.at fun o e => hid_get e hd) (r.mono x)⟩
theorem Fm.retOwnD {a : Addr} {kvs : List (Int × Int)} (F : Fm C (hideAll s₀.heap TB) s₀ μ env cs ρ own s) (ho : (a, OD.dict kvs) ∈ own) : Ret C s₀ μ (.dict kvs) (.ret (.ref a)) s := by
  obtain ⟨l, p, n, r⟩ := F.ownd _ ho
  have hd := F.co.disj a (List.mem_cons_of_mem _ (List.mem_append_right _ (List.mem_map.mpr ⟨_, ho, rfl⟩)))
  obtain ⟨h', tk, rfl, k, G, x⟩ := F.leave
  exact ⟨_, h', tk, rfl, rfl, k, G, .dict (p.at fun o e => hid_get e hd) n r⟩
end

theorem bindL_out {kindOf : Str → Option NameKind} : ∀ {binds : List (Str × Value)} {m : Str → Option Value} {x : Str}, x ∉ binds.map (·.1) → bindL kindOf binds m x = m x
  | [], _, _, _ => rfl
  | (n, v) :: r, m, x, h => by
    simp only [List.map_cons, List.mem_cons, not_or] at h
    unfold bindL
    rw [bindL_out h.2]
    split
    · simp [h.1]
    · rfl
theorem bindC_out {kindOf : Str → Option NameKind} : ∀ {binds : List (Str × Value)} {m : Str → Option Value} {x : Str}, x ∉ binds.map (·.1) → bindC kindOf binds m x = m x
  | [], _, _, _ => rfl
  | (n, v) :: r, m, x, h => by
    simp only [List.map_cons, List.mem_cons, not_or] at h
    unfold bindC
    rw [bindC_out h.2]
    split
    · rfl
    · simp [h.1]
theorem bindL_in {kindOf : Str → Option NameKind} : ∀ {binds : List (Str × Value)} {m : Str → Option Value} {x : Str} {v : Value}, (binds.map (·.1)).Nodup → (x, v) ∈ binds → kindOf x = some .local → bindL kindOf binds m x = some v
  | (n, u) :: r, m, x, v, hn, h, hk => by
    rw [List.map_cons, List.nodup_cons] at hn
    unfold bindL
    rcases List.mem_cons.mp h with e | h
    · cases e
      rw [bindL_out hn.1, if_pos hk]; simp
    · exact bindL_in hn.2 h hk
theorem bindC_in {kindOf : Str → Option NameKind} : ∀ {binds : List (Str × Value)} {m : Str → Option Value} {x : Str} {v : Value}, (binds.map (·.1)).Nodup → (x, v) ∈ binds → kindOf x ≠ some .local → bindC kindOf binds m x = some v
  | (n, u) :: r, m, x, v, hn, h, hk => by
    rw [List.map_cons, List.nodup_cons] at hn
    unfold bindC
    rcases List.mem_cons.mp h with e | h
    · cases e
      rw [bindC_out hn.1, if_neg hk]; simp
    · exact bindC_in hn.2 h hk

theorem cellsFrom_names : ∀ (names : List (Str × NameKind)) (n : Nat) (acc : List (Str × Addr)), (cellsFrom n names acc).map (·.1) = ((names.filter (·.2 == .cell)).map (·.1)).reverse ++ acc.map (·.1)
  | [], _, _ => rfl
  | (x, kd) :: r, n, acc => by
    unfold cellsFrom
    by_cases hk : (kd == .cell) = true
    · rw [if_pos hk, cellsFrom_names r, List.filter_cons_of_pos (by exact hk)]; simp
    · rw [if_neg hk, cellsFrom_names r, List.filter_cons_of_neg (by exact hk)]
theorem lookup_of_mem {α : Type} : ∀ {l : List (Str × α)} {x : Str} {c : α}, (l.map (·.1)).Nodup → (x, c) ∈ l → l.lookup x = some c
  | (y, e) :: r, x, c, hn, h => by
    rw [List.map_cons, List.nodup_cons] at hn
    rw [List.lookup_cons]
    rcases List.mem_cons.mp h with q | h
    · cases q; simp
    · rw [show (x == y) = false from beq_eq_false_iff_ne.mpr fun q => hn.1 (q ▸ List.mem_map.mpr ⟨_, h, rfl⟩)]
      exact lookup_of_mem hn.2 h

section
variable {C : Cx} {k : Nat} {A : Around} {s : Shared} {μ : List Addr} {d : D}

/-- the frame of a call that has been entered -/
theorem fm_start {env : Env} {args : List (Str × Value × D)} {s₁ : Shared} (G : Good C μ s.heap) (envF : EnvF env)
    (x : InCallC s env.locals (bindL env.kindOf (args.map fun x => (x.1, x.2.1)) fun _ => none) env.cells (bindC env.kindOf (args.map fun x => (x.1, x.2.1)) fun _ => none) s₁)
    (hnd : (args.map (·.1)).Nodup) (hcn : (env.cells.map (·.1)).Nodup)
    (hkind : ∀ x ∈ args, env.kindOf x.1 = some .local ∨ (env.kindOf x.1 = some .cell ∧ (env.cells.lookup x.1).isSome = true))
    (hargs : ∀ x ∈ args, Rep C (hideAll s.heap μ) x.2.1 x.2.2) : Fm C (hideAll s.heap TB) s μ env env.cells (args.map fun x => (x.1, x.2.2)) [] s₁ := by
  have hW : ∀ y ∈ Wl env env.cells [], s.heap.objs.size ≤ y ∧ ∃ o, s₁.heap.get? y = some o := by
    intro y hy
    unfold Wl at hy
    rw [List.map_nil, List.append_nil] at hy
    rcases List.mem_cons.mp hy with rfl | hy
    · exact ⟨x.toInCall.fresh, let ⟨o, _, _, e, _⟩ := x.toInCall.ns; ⟨o, e⟩⟩
    · obtain ⟨z, hz, rfl⟩ := List.mem_map.mp hy
      exact ⟨Nat.le_trans x.toInCall.fresh (Nat.le_of_lt (x.above z.1 z.2 hz)), let ⟨o, e, _⟩ := x.cell z.1 z.2 (lookup_of_mem hcn hz); ⟨o, e⟩⟩
  have fresh : ∀ y, s.heap.objs.size ≤ y → s.heap.get? y = none := fun y hy => by
    cases q : s.heap.get? y with
    | none => rfl
    | some o => exact absurd (Heap.lt_size q) (Nat.not_lt.mpr hy)
  have gx : Ext (hideAll s.heap μ) (hideAll s₁.heap (Wl env env.cells [] ++ μ)) := hid_mono fun y o n e => by
    refine ⟨x.toInCall.keep y o e, fun hm => ?_⟩
    rcases List.mem_append.mp hm with hm | hm
    · exact absurd (Heap.lt_size e) (Nat.not_lt.mpr (hW y hm).1)
    · exact n hm
  have inArgs : ∀ y d', (args.map fun x => (x.1, x.2.2)).lookup y = some d' → ∃ z ∈ args, z.1 = y ∧ z.2.2 = d' := fun y d' e => by
    obtain ⟨z, hz, q⟩ := List.mem_map.mp (mem_of_lookup e)
    exact ⟨z, hz, (Prod.mk.inj q).1, (Prod.mk.inj q).2⟩
  have hnb : ((args.map fun x => (x.1, x.2.1)).map (·.1)).Nodup := by rw [List.map_map]; exact hnd
  refine ⟨⟨x.toInCall.same, ?_, G.sub, fun y o e => x.toInCall.keep y o (of_hideAll _ e), fun P hP => hideAll_none _ hP, ?_, fun a ha => ⟨?_, ?_⟩, fun a ha hm => ?_⟩, envF, ⟨_, x.toInCall.ns, fun y d' e hk => ?_⟩, fun y c e => ⟨e, _, x.cell y c e, fun d' ed hk => ?_⟩, fun y d' e => ?_, fun p hp => nomatch hp⟩
  · refine G.turn gx (fun P hP => List.mem_append_right _ (G.sub P hP)) (fun y hy => ?_) fun P hP o e => x.toInCall.keep P o e
    rcases List.mem_append.mp hy with hy | hy
    · exact (hW y hy).2
    · obtain ⟨o, e⟩ := G.low y hy
      exact ⟨o, x.toInCall.keep y o e⟩
  · unfold Wl
    rw [List.map_nil, List.append_nil, List.nodup_cons]
    refine ⟨fun hm => ?_, ?_⟩
    · obtain ⟨z, hz, q⟩ := List.mem_map.mp hm
      exact absurd (x.above z.1 z.2 hz) (by rw [← q]; exact Nat.lt_irrefl _)
    · exact List.pairwise_map.mpr x.apart
  · cases q : (hideAll s.heap TB).get? a with
    | none => rfl
    | some o => have z := of_hideAll _ q; rw [fresh a (hW a ha).1] at z; cases z
  · exact G.tb (fresh a (hW a ha).1)
  · obtain ⟨o, e⟩ := G.low a hm
    rw [fresh a (hW a ha).1] at e; cases e
  · obtain ⟨z, hz, rfl, rfl⟩ := inArgs y d' e
    exact ⟨z.2.1, bindL_in hnb (List.mem_map.mpr ⟨z, hz, rfl⟩) hk, (hargs z hz).mono gx⟩
  · obtain ⟨z, hz, rfl, rfl⟩ := inArgs y d' ed
    exact ⟨z.2.1, bindC_in hnb (List.mem_map.mpr ⟨z, hz, rfl⟩) (by rw [hk]; decide), (hargs z hz).mono gx⟩
  · obtain ⟨z, hz, rfl, rfl⟩ := inArgs y d' e
    rcases hkind z hz with h | ⟨h1, h2⟩
    · exact .inl h
    · exact .inr (.inl ⟨h1, Option.isSome_iff_exists.mp h2⟩)

noncomputable def ArgsRep (C : Cx) (g : Heap) : List (Str × Value × D) → Prop
  | [] => True
  | x :: r => Rep C g x.2.1 x.2.2 ∧ ArgsRep C g r
theorem ArgsRep.all {g : Heap} : ∀ {l : List (Str × Value × D)}, ArgsRep C g l → ∀ x ∈ l, Rep C g x.2.1 x.2.2
  | y :: r, h, x, hx => by
    rcases List.mem_cons.mp hx with rfl | hx
    · exact h.1
    · exact ArgsRep.all h.2 x hx

/-- into a def of the text: its parameters' data stand in the store -/
theorem enter {a : Addr} {oc : Value} {od : Option Addr} {osl : Array (Option Value)} {fd : FuncData} {body : List Stmt} (args : List (Str × Value × D)) {vals : List Value} {Q : Value → Shared → Prop} {E : Value → Shared → Prop}
    (G : Good C μ s.heap) (rm : Room (k + 1) A)
    (ho : (hd.heap_39 C.w.params).lookup a = some ⟨oc, od, .func fd, osl⟩) (hcd : codeIn (hd.heap_39 C.w.params) fd.code fd.qualname = true) (hbody : fd.body = .stmts body)
    (hbind : bindArgs fd ⟨vals, []⟩ = pure (args.map fun x => (x.1, x.2.1))) (hclo : fd.closure = []) (hnd : decide (args.map (·.1)).Nodup = true)
    (hkind : ((args.map fun x => (x.1, x.2.1)).all fun y => fd.scope.names.lookup y.1 == some .local || fd.scope.names.lookup y.1 == some .cell) = true)
    (hcn : ((fd.scope.names.filter (·.2 == .cell)).map (·.1)).Nodup)
    (hglob : fd.globals = mainGlobals) (hbi : fd.builtins = builtinsNs)
    (hco : fd.scope.isCoroutine = false) (hgen : fd.scope.isGenerator = false) (hk : fd.scope.kind = .function)
    (hargs : ArgsRep C (hideAll s.heap μ) args)
    (h : ∀ L s₁ A' E', Fm C (hideAll s.heap TB) s μ (callEnvC fd L a) (callEnvC fd L a).cells (args.map fun x => (x.1, x.2.2)) [] s₁ → Room k A' →
      wpAny (model C.prog C.w) A' (execs body (callEnvC fd L a)) (Ret C s μ d) E' s₁)
    (ret : ∀ v h' tk, KH s.heap h' → Good C μ h' → Dt C d v μ h' → Q v { s with heap := h', toks := tk }) : wpAny (model C.prog C.w) A (call (.ref a) vals) Q E s := by
  have kx : Ext (hideAll s.heap μ) s.heap := hid_ext _ _
  have hobj := G.K _ _ ho
  have hkd := kindsX hkind (s.heap.objs.size + 1)
  refine wpAny_call (codeAny_call_cells rm.lim (kx _ _ hobj) rfl (G.T.nolimit.keeps kx) (codeRec_of (G.K.keeps kx) hcd) hbody hbind hclo hkd (fun s₁ x => ?_) hco hgen hk)
  have F := fm_start (env := callEnvC fd s.heap.objs.size a) (args := args) G ⟨hk, hglob, hbi⟩ x (of_decide_eq_true hnd) (by
      show ((cellsFrom _ fd.scope.names []).map (·.1)).Nodup
      rw [cellsFrom_names, List.map_nil, List.append_nil]
      exact List.pairwise_reverse.mpr (hcn.imp Ne.symm)) (fun z hz => hkd _ (List.mem_map.mpr ⟨z, hz, rfl⟩)) hargs.all
  refine wpAny_mono (h _ s₁ _ _ F rm.deeper) (fun fl s' hr => ?_) fun _ _ e => e
  obtain ⟨v, h', tk', e1, rfl, r1, r2, r3⟩ := hr
  cases fl <;> (cases e1; exact ret _ h' tk' r1 r2 r3)
end
end Mine

open PySem PySem.W PyProof.Rows PySem.Spec PySem.Calls
set_option Elab.async false
set_option maxRecDepth 100000
set_option linter.unusedVariables false
namespace Mine

section
variable {C : Cx} {k : Nat} {A : Around} {env : Env} {cs : List (Str × Addr)} {ρ ρ' : List (Str × D)} {own own' : List (Addr × OD)} {b b' : Heap} {f s s₀ : Shared} {μ μ₀ μ₁ W : List Addr} {d : D} {h' : Heap} {tk : Nat}
  {Q : Flow → Shared → Prop} {E : Value → Shared → Prop} {rest : List Stmt}

theorem mem_Wl_L : env.locals ∈ Wl env cs own := List.mem_cons_self ..
theorem mem_Wl_c {x : Str} {c : Addr} (e : cs.lookup x = some c) : c ∈ Wl env cs own := List.mem_cons_of_mem _ (List.mem_append_left _ (List.mem_map.mpr ⟨(x, c), mem_of_lookup e, rfl⟩))
theorem mem_Wl_o {p : Addr × OD} (hp : p ∈ own) : p.1 ∈ Wl env cs own := List.mem_cons_of_mem _ (List.mem_append_right _ (List.mem_map.mpr ⟨p, hp, rfl⟩))

/-- the frame's own objects stay; what is hidden beside them may turn -/
theorem Fm.carry (F : Fm C b f μ₀ env cs ρ own s) (co : Co C b' f μ₁ (Wl env cs own) { s with heap := h', toks := tk })
    (gx : Ext (hideAll s.heap (Wl env cs own ++ μ₀)) (hideAll h' (Wl env cs own ++ μ₁)))
    (up : ∀ a ∈ Wl env cs own, ∀ o, s.heap.get? a = some o → h'.get? a = some o)
    (fr : ∀ c v, c ∉ Wl env cs own → c ∉ TB → s.heap.IsCell c v → h'.IsCell c v) : Fm C b' f μ₁ env cs ρ own { s with heap := h', toks := tk } := by
  refine ⟨co, F.envF, ?_, fun x c e => ?_, fun x d e => ?_, fun p hp => ?_⟩
  · obtain ⟨m, h1, h2⟩ := F.ns
    exact ⟨m, h1.at' (up _ mem_Wl_L), fun x d e hk => let ⟨v, e1, e2⟩ := h2 x d e hk; ⟨v, e1, e2.mono gx⟩⟩
  · obtain ⟨e1, ov, ⟨o, c1, c2⟩, h2⟩ := F.cell x c e
    exact ⟨e1, ov, ⟨o, up _ (mem_Wl_c e) _ c1, c2⟩, fun d ed hk => let ⟨v, e2, e3⟩ := h2 d ed hk; ⟨v, e2, e3.mono gx⟩⟩
  · rcases F.kinds x d e with h | h | ⟨h1, h2, c, v, h3, h4, h5, h6, h7⟩
    · exact .inl h
    · exact .inr (.inl h)
    · exact .inr (.inr ⟨h1, h2, c, v, h3, h4, h5, fr c _ h4 h5 h6, h7.mono gx⟩)
  · exact (F.ownd p hp).mono gx (up _ (mem_Wl_o hp))

/-- a new object that is hidden -/
theorem Fm.hideNew {I : Addr} (F : Fm C b f μ₀ env cs ρ own s) (x : Ext s.heap h') (hn : s.heap.get? I = none) (hI : ∃ o, h'.get? I = some o) : Fm C b f (I :: μ₀) env cs ρ own { s with heap := h', toks := tk } := by
  have gx : Ext (hideAll s.heap (Wl env cs own ++ μ₀)) (hideAll h' (Wl env cs own ++ I :: μ₀)) := hid_mono fun y o n e => ⟨x y o e, fun hm => by
    rcases List.mem_append.mp hm with hm | hm
    · exact n (List.mem_append_left _ hm)
    · rcases List.mem_cons.mp hm with q | hm
      · rw [q, hn] at e; cases e
      · exact n (List.mem_append_right _ hm)⟩
  have hiW : I ∉ Wl env cs own := fun hm => by
    obtain ⟨o, e⟩ := F.co.good.low I (List.mem_append_left _ hm)
    rw [hn] at e; cases e
  refine F.carry ⟨let ⟨h, t, e⟩ := F.co.same; ⟨h', tk, by rw [e]⟩, ?_, fun P hP => List.mem_cons_of_mem _ (F.co.tb P hP), fun y o e => x y o (F.co.keep y o e), F.co.btb, F.co.nodup, F.co.priv, fun a ha hm => ?_⟩ gx (fun a _ o e => x a o e) fun c v _ _ h => h.keeps x
  · refine F.co.good.turn gx (fun P hP => List.mem_append_right _ (List.mem_cons_of_mem _ (F.co.tb P hP))) (fun a ha => ?_) fun P _ o e => x P o e
    rcases List.mem_append.mp ha with ha | ha
    · obtain ⟨o, e⟩ := F.co.good.low a (List.mem_append_left _ ha); exact ⟨o, x a o e⟩
    · rcases List.mem_cons.mp ha with rfl | ha
      · exact hI
      · obtain ⟨o, e⟩ := F.co.good.low a (List.mem_append_right _ ha); exact ⟨o, x a o e⟩
  · rcases List.mem_cons.mp hm with q | hm
    · exact hiW (q ▸ ha)
    · exact F.co.disj a ha hm

/-- the hidden object turned -/
theorem Fm.hideTurn {I : Addr} (F : Fm C b f (I :: μ₀) env cs ρ own s) (x : ∀ y o, y ≠ I → s.heap.get? y = some o → h'.get? y = some o) (hb : b.get? I = none) (ht : ∀ P ∈ TB, P ∈ μ₀) (hit : I ∉ TB) (hI : ∃ o, h'.get? I = some o) (hnc : ∀ v, ¬ s.heap.IsCell I v) : Fm C b f (I :: μ₀) env cs ρ own { s with heap := h', toks := tk } := by
  have hiW : I ∉ Wl env cs own := fun hm => F.co.disj I hm (List.mem_cons_self ..)
  have gx : Ext (hideAll s.heap (Wl env cs own ++ I :: μ₀)) (hideAll h' (Wl env cs own ++ I :: μ₀)) := hid_mono fun y o n e => ⟨x y o (fun q => n (List.mem_append_right _ (q ▸ List.mem_cons_self ..))) e, n⟩
  refine F.carry ⟨let ⟨h, t, e⟩ := F.co.same; ⟨h', tk, by rw [e]⟩, ?_, F.co.tb, fun y o e => x y o (fun q => by rw [q, hb] at e; cases e) (F.co.keep y o e), F.co.btb, F.co.nodup, F.co.priv, F.co.disj⟩ gx (fun a ha o e => x a o (fun q => hiW (q ▸ ha)) e) fun c v _ _ h => let ⟨o, c1, c2⟩ := h; ⟨o, x c o (fun q => hnc v (q ▸ h)) c1, c2⟩
  refine F.co.good.turn gx F.co.good.sub (fun a ha => ?_) fun P hP o e => x P o (fun q => hit (q ▸ hP)) e
  by_cases q : a = I
  · exact q ▸ hI
  · obtain ⟨o, e⟩ := F.co.good.low a ha; exact ⟨o, x a o q e⟩

/-- the hidden object is shown again, or gone -/
theorem Fm.hideEnd {I : Addr} (F : Fm C b f (I :: μ₀) env cs ρ own s) (x : ∀ y o, y ≠ I → s.heap.get? y = some o → h'.get? y = some o) (hb : b.get? I = none) (ht : ∀ P ∈ TB, P ∈ μ₀) (hit : I ∉ TB) (hIμ : I ∉ μ₀) (hnc : ∀ v, ¬ s.heap.IsCell I v) : Fm C b f μ₀ env cs ρ own { s with heap := h', toks := tk } := by
  have hiW : I ∉ Wl env cs own := fun hm => F.co.disj I hm (List.mem_cons_self ..)
  have gx : Ext (hideAll s.heap (Wl env cs own ++ I :: μ₀)) (hideAll h' (Wl env cs own ++ μ₀)) := hid_mono fun y o n e => ⟨x y o (fun q => n (List.mem_append_right _ (q ▸ List.mem_cons_self ..))) e, fun hm => n (by
    rcases List.mem_append.mp hm with hm | hm
    · exact List.mem_append_left _ hm
    · exact List.mem_append_right _ (List.mem_cons_of_mem _ hm))⟩
  refine F.carry ⟨let ⟨h, t, e⟩ := F.co.same; ⟨h', tk, by rw [e]⟩, ?_, ht, fun y o e => x y o (fun q => by rw [q, hb] at e; cases e) (F.co.keep y o e), F.co.btb, F.co.nodup, F.co.priv, fun a ha hm => F.co.disj a ha (List.mem_cons_of_mem _ hm)⟩ gx (fun a ha o e => x a o (fun q => hiW (q ▸ ha)) e) fun c v _ _ h => let ⟨o, c1, c2⟩ := h; ⟨o, x c o (fun q => hnc v (q ▸ h)) c1, c2⟩
  refine F.co.good.turn gx (fun P hP => List.mem_append_right _ (ht P hP)) (fun a ha => ?_) fun P hP o e => x P o (fun q => hit (q ▸ hP)) e
  rcases List.mem_append.mp ha with ha | ha
  · obtain ⟨o, e⟩ := F.co.good.low a (List.mem_append_left _ ha); exact ⟨o, x a o (fun q => hiW (q ▸ ha)) e⟩
  · obtain ⟨o, e⟩ := F.co.good.low a (List.mem_append_right _ (List.mem_cons_of_mem _ ha)); exact ⟨o, x a o (fun q => hIμ (q ▸ ha)) e⟩

/-- all that stands beside the frame's own is the new base -/
theorem Fm.rebase (F : Fm C b f μ₀ env cs ρ own s) : Fm C (hideAll s.heap (Wl env cs own ++ TB)) f μ₀ env cs ρ own s := by
  have co : Co C (hideAll s.heap (Wl env cs own ++ TB)) f μ₀ (Wl env cs own) s := ⟨F.co.same, F.co.good, F.co.tb, fun y o e => of_hideAll _ e, fun P hP => hideAll_none _ (List.mem_append_right _ hP), F.co.nodup, fun a ha => ⟨hideAll_none _ (List.mem_append_left _ ha), (F.co.priv a ha).2⟩, F.co.disj⟩
  exact ⟨co, F.envF, F.ns, F.cell, F.kinds, F.ownd⟩
theorem Fm.unbase {s' : Shared} (F : Fm C b f μ₀ env cs ρ own s) (F' : Fm C (hideAll s.heap (Wl env cs own ++ TB)) f μ₀ env cs ρ' own' s') (hO : own'.map (·.1) = own.map (·.1)) : Fm C b f μ₀ env cs ρ' own' s' := by
  have hW : Wl env cs own' = Wl env cs own := by unfold Wl; rw [hO]
  have co : Co C b f μ₀ (Wl env cs own') s' := ⟨F'.co.same, F'.co.good, F.co.tb, fun y o e => F'.co.keep y o (hid_get (F.co.keep y o e) fun hm => by
    rcases List.mem_append.mp hm with hm | hm
    · rw [(F.co.priv y hm).1] at e; cases e
    · rw [F.co.btb y hm] at e; cases e), F.co.btb, F'.co.nodup, fun a ha => F.co.priv a (hW ▸ ha), F'.co.disj⟩
  exact ⟨co, F'.envF, F'.ns, F'.cell, F'.kinds, F'.ownd⟩

/-- what may be run through: its items' data -/
noncomputable def Iters (C : Cx) (d : D) (ds : List D) : Prop := ∀ (μ : List Addr) (A : Around) (s : Shared) (Q : Value → Shared → Prop) (E : Value → Shared → Prop) (v : Value), Good C μ s.heap → Rep C (hideAll s.heap μ) v d → A.handled = none →
  (∀ (I : Addr) (h' : Heap) (tk : Nat) (fp : List Addr) (P : Nat → Value → Prop) (St : Nat → Heap → Prop), Ext s.heap h' → s.heap.get? I = none → Walks C.prog C.w A I fp [I] ds.length P St → (∀ b ∈ fp, b = I ∨ ∃ o, (hideAll s.heap μ).get? b = some o) →
    (∀ i h, St i h → ∃ o, h.get? I = some o ∧ ∀ v, o.data ≠ .cell v) → St 0 h' → (∀ i v', P i v' → ∃ d', ds[i]? = some d' ∧ Rep C (hideAll s.heap μ) v' d') → Q (.ref I) { s with heap := h', toks := tk }) →
  wpAny (model C.prog C.w) A (pyIter v) Q E s

theorem not_free {env : Env} (h : (env.scope.names.all fun p => p.2 != .free) = true) : ∀ x, env.kindOf x ≠ some .free := fun x e => by
  have := List.all_eq_true.mp h _ (mem_of_lookup e)
  simp at this

/-- an expression and what its iterator runs through -/
noncomputable def ItOk (C : Cx) (k : Nat) (env : Env) (ρ : List (Str × D)) (X : SA C) (iter : Expr) (ds : List D) : Prop := ∀ (μ : List Addr) (A : Around) (s : Shared) (Q : Value → Shared → Prop) (E : Value → Shared → Prop), Good C μ s.heap → Cn C env ρ X μ s.heap → Room k A →
  (∀ (h₁ : Heap) (tk₁ : Nat) (I : Addr) (h' : Heap) (tk : Nat) (fp : List Addr) (P : Nat → Value → Prop) (St : Nat → Heap → Prop), KH s.heap h₁ → Good C μ h₁ → Ext h₁ h' → h₁.get? I = none → Walks C.prog C.w A I fp [I] ds.length P St → (∀ b ∈ fp, b = I ∨ ∃ o, (hideAll h₁ μ).get? b = some o) →
    (∀ i h, St i h → ∃ o, h.get? I = some o ∧ ∀ v, o.data ≠ .cell v) → St 0 h' → (∀ i v', P i v' → ∃ d', ds[i]? = some d' ∧ Rep C (hideAll h₁ μ) v' d') → Q (.ref I) { s with heap := h', toks := tk }) →
  wpAny (model C.prog C.w) A (eval iter env) (fun v s' => wpAny (model C.prog C.w) A (pyIter v) Q E s') E s
theorem itOk_of {X : SA C} {iter : Expr} {ds : List D} (he : Ev C k env ρ X iter d) (hi : Iters C d ds) : ItOk C k env ρ X iter ds := fun μ A s Q E G p rm cont =>
  he μ A s _ E G p rm fun v h₁ tk₁ k₁ G₁ r => hi _ A _ _ E v G₁ r rm.handled fun I h' tk fp P St ext hnew W hfp hex st hP => cont h₁ tk₁ I h' tk fp P St k₁ G₁ ext hnew W hfp hex st hP

/-- a for over what may be run through, by what the names and the own objects hold at each turn -/
theorem x_forI {x : Str} {px pos : Pos} {iter : Expr} {body : List Stmt} {ds : List D} (Φ : Nat → List (Str × D)) (O : Nat → List (Addr × OD)) (F : Fm C b f μ₀ env cs ρ own s) (rm : Room k A)
    (hit : ItOk C k env ρ (OwnX C own) iter ds) (hx : Kd env cs x) (hO : ∀ i, (O i).map (·.1) = own.map (·.1)) (hO0 : O 0 = own)
    (h0 : ∀ y d, (Φ 0).lookup y = some d → ρ.lookup y = some d)
    (turn : ∀ i d', ds[i]? = some d' → ∀ b' μ' s' E', Fm C b' f μ' env cs ((x, d') :: Φ i) (O i) s' → wpAny (model C.prog C.w) A (execs body env) (fun fl s'' => fl = .next ∧ Fm C b' f μ' env cs (Φ (i + 1)) (O (i + 1)) s'') E' s')
    (cont : ∀ s', Fm C b f μ₀ env cs (Φ ds.length) (O ds.length) s' → wpAny (model C.prog C.w) A (execs rest env) Q E s')
    (hs : ∀ x, foldedSetIterable iter env x = pure x := by intro _; rfl) : wpAny (model C.prog C.w) A (execs (.For (.Name x px) iter body [] pos :: rest) env) Q E s := by
  refine x_cons (wpAny_For (hit _ A s _ E F.co.good F.sees rm fun h₀ tk₀ I h₁ tk fp P St kh₀ G₀ ext hnew W hfp hex st hP => ?_) hs)
  obtain ⟨s₁, hs₁⟩ : ∃ s₁ : Shared, s₁ = { s with heap := h₀, toks := tk₀ } := ⟨_, rfl⟩
  have F₁ : Fm C b f μ₀ env cs ρ own s₁ := hs₁ ▸ F.pure kh₀ G₀
  have q₁ : h₀ = s₁.heap := by rw [hs₁]
  have q₂ : ({ s with heap := h₁, toks := tk } : Shared) = { s₁ with heap := h₁, toks := tk } := by rw [hs₁]
  rw [q₂]
  rw [q₁] at ext hnew hfp hP
  clear hs₁ q₁ q₂
  have hnc : ∀ i (hh : Heap), St i hh → ∀ v, ¬ hh.IsCell I v := fun i hh st v ⟨o, c1, c2⟩ => by
    obtain ⟨o', e1, e2⟩ := hex i hh st
    rw [c1] at e1; cases e1; exact e2 v c2
  have hex' : ∀ i (hh : Heap), St i hh → ∃ o, hh.get? I = some o := fun i hh st => let ⟨o, e, _⟩ := hex i hh st; ⟨o, e⟩
  have hbI : b.get? I = none := by
    cases q : b.get? I with
    | none => rfl
    | some o => have := F₁.co.keep I o q; rw [hnew] at this; cases this
  have hIt : I ∉ TB := F₁.co.good.tb hnew
  have hIμ : I ∉ μ₀ := fun m => by obtain ⟨o, e⟩ := F₁.co.good.low I (List.mem_append_right _ m); rw [hnew] at e; cases e
  have F₂ : Fm C b f (I :: μ₀) env cs (Φ 0) (O 0) { s₁ with heap := h₁, toks := tk } := hO0 ▸ ((F₁.hideNew ext hnew (hex' 0 h₁ st)).weak h0)
  have hWi : ∀ i, Wl env cs (O i) = Wl env cs own := fun i => by unfold Wl; rw [hO i]
  have hgx₀ : Ext (hideAll s₁.heap (Wl env cs own ++ μ₀)) (hideAll h₁ (Wl env cs own ++ I :: μ₀)) := hid_mono fun y o n e => ⟨ext y o e, fun hm => by
    rcases List.mem_append.mp hm with hm | hm
    · exact n (List.mem_append_left _ hm)
    · rcases List.mem_cons.mp hm with q | hm
      · rw [q, hnew] at e; cases e
      · exact n (List.mem_append_right _ hm)⟩
  refine codeAny_forLoop (fun kk s' => ∃ i, Fm C b f (I :: μ₀) env cs (Φ i) (O i) s' ∧ St i s'.heap ∧ Ext (hideAll s₁.heap (Wl env cs own ++ μ₀)) (hideAll s'.heap (Wl env cs own ++ I :: μ₀)) ∧ i ≤ ds.length ∧ kk = ds.length + 1 - i) ?_ (ds.length + 1) ⟨0, F₂, st, hgx₀, Nat.zero_le _, rfl⟩
  rintro kk s' ⟨i, Fi, sti, gxi, hile, rfl⟩
  by_cases hlt : i < ds.length
  · refine W.item i _ _ _ hlt sti fun v' h₂ tk₂ hPv st₂ hk₂ => ?_
    obtain ⟨d', hd', rv⟩ := hP i v' hPv
    have Fi₂ : Fm C b f (I :: μ₀) env cs (Φ i) (O i) { s' with heap := h₂, toks := tk₂ } := Fi.hideTurn (fun y o n e => hk₂ y o (fun hm => n (List.mem_singleton.mp hm)) e) hbI F.co.tb hIt (hex' _ _ st₂) (hnc _ _ sti)
    have gx₂ : Ext (hideAll s₁.heap (Wl env cs own ++ μ₀)) (hideAll h₂ (Wl env cs own ++ I :: μ₀)) := gxi.trans (hid_mono fun y o n e => ⟨hk₂ y o (fun hm => n (List.mem_append_right _ (List.mem_singleton.mp hm ▸ List.mem_cons_self ..))) e, n⟩)
    have inb : ∀ y o, (hideAll h₂ (Wl env cs own ++ I :: μ₀)).get? y = some o → (hideAll h₂ (Wl env cs (O i) ++ TB)).get? y = some o := fun y o e => by
      obtain ⟨e1, e2⟩ := hid_inv e
      refine hid_get e1 fun hm => e2 ?_
      rcases List.mem_append.mp hm with hm | hm
      · exact List.mem_append_left _ (hWi i ▸ hm)
      · exact List.mem_append_right _ (List.mem_cons_of_mem _ (F.co.tb y hm))
    refine wpAny_assign_Name (Fi₂.rebase.store (d := d') hx (by rw [hWi]; exact rv.mono gx₂) fun h₃ tk₃ F₃ => ?_)
    refine wpAny_mono (turn i d' hd' _ _ _ _ F₃) (fun fl s₄ h₄ => ?_) fun _ _ e => e
    obtain ⟨rfl, F₄⟩ := h₄
    refine ⟨ds.length + 1 - (i + 1), by lia, i + 1, Fi₂.unbase F₄ (by rw [hO, hO]), ?_, ?_, hlt, rfl⟩
    · refine W.frame _ _ _ st₂ fun y hy o e => F₄.co.keep y o ?_
      rcases hfp y hy with rfl | ⟨o', e'⟩
      · refine hid_get e fun hm => ?_
        rcases List.mem_append.mp hm with hm | hm
        · exact Fi₂.co.disj y hm (List.mem_cons_self ..)
        · exact hIt hm
      · have q := gx₂ y o' e'
        have q2 := (hid_inv q).1
        have q3 : h₂.get? y = some o := e
        rw [q2] at q3
        cases q3
        exact inb y o q
    · intro y o e
      have q := gx₂ y o e
      have q2 := (hid_inv q).2
      exact hid_get (F₄.co.keep y o (inb y o q)) q2
  · have hin : i = ds.length := by lia
    subst hin
    refine W.done _ _ _ sti fun h₂ tk₂ hk₂ => wpAny_execs_nil ?_
    exact cont _ (Fi.hideEnd (fun y o n e => hk₂ y o (fun hm => n (List.mem_singleton.mp hm)) e) hbI F.co.tb hIt hIμ (hnc _ _ sti))

theorem x_for {x : Str} {px pos : Pos} {iter : Expr} {body : List Stmt} {ds : List D} (Φ : Nat → List (Str × D)) (O : Nat → List (Addr × OD)) (F : Fm C b f μ₀ env cs ρ own s) (rm : Room k A)
    (he : Ev C k env ρ (OwnX C own) iter d) (hi : Iters C d ds) (hx : Kd env cs x) (hO : ∀ i, (O i).map (·.1) = own.map (·.1)) (hO0 : O 0 = own)
    (h0 : ∀ y d, (Φ 0).lookup y = some d → ρ.lookup y = some d)
    (turn : ∀ i d', ds[i]? = some d' → ∀ b' μ' s' E', Fm C b' f μ' env cs ((x, d') :: Φ i) (O i) s' → wpAny (model C.prog C.w) A (execs body env) (fun fl s'' => fl = .next ∧ Fm C b' f μ' env cs (Φ (i + 1)) (O (i + 1)) s'') E' s')
    (cont : ∀ s', Fm C b f μ₀ env cs (Φ ds.length) (O ds.length) s' → wpAny (model C.prog C.w) A (execs rest env) Q E s')
    (hs : ∀ x, foldedSetIterable iter env x = pure x := by intro _; rfl) : wpAny (model C.prog C.w) A (execs (.For (.Name x px) iter body [] pos :: rest) env) Q E s :=
  x_forI Φ O F rm (itOk_of he hi) hx hO hO0 h0 turn cont hs
end
end Mine

open PySem PySem.W PyProof.Rows PySem.Spec PySem.Calls
set_option Elab.async false
set_option maxRecDepth 100000
set_option linter.unusedVariables false
namespace Mine

section
variable {C : Cx} {k : Nat} {A : Around} {env : Env} {ρ ρ' : List (Str × D)} {X : SA C} {s s₀ : Shared} {μ : List Addr} {d d₀ : D} {ds : List D} {kvs : List (Int × Int)}

theorem push_ext (h : Heap) (o : Obj) : Ext h (h.push o) := fun _ _ e => Heap.get?_push_of_some _ e
theorem fresh_size (h : Heap) : h.get? h.objs.size = none := by
  cases e : h.get? h.objs.size with
  | none => rfl
  | some o => exact absurd (Heap.lt_size e) (Nat.lt_irrefl _)

theorem it_list : Iters C (.list ds) ds := by
  rintro μ A s Q E v G ⟨⟩ hh cont
  rename_i a vs hl hr
  have hl' := hl.isList.at fun o e => hid_ext μ s.heap _ o e
  obtain ⟨na, ha⟩ := hl
  have hne : a ≠ s.heap.objs.size := Nat.ne_of_lt (Heap.lt_size (of_hideAll _ ha))
  have hlen : vs.size = ds.length := by have := repL_length hr; simpa using this
  refine wpAny_pyIter_list hl' ?_
  have W := Walks.list (prog := C.prog) (w := C.w) hh s.heap.objs.size a hne vs
  rw [hlen] at W
  refine cont _ _ s.toks _ _ _ (push_ext _ _) (fresh_size _) W ?_ ?_ ⟨⟨_, Heap.get?_push_size _ rfl, rfl, rfl⟩, hl'.at fun o e => Heap.get?_push_of_some _ e⟩ ?_
  · intro b hb
    rcases List.mem_cons.mp hb with rfl | hb
    · exact .inl rfl
    · rw [List.mem_singleton.mp hb]; exact .inr ⟨_, ha⟩
  · rintro i h ⟨⟨o, e, _, q⟩, _⟩; exact ⟨o, e, fun v z => by rw [q] at z; cases z⟩
  · intro i v' hP
    have hi : i < ds.length := by rw [← hlen]; exact (Array.getElem?_eq_some_iff.mp hP).1
    obtain ⟨v'', e1, e2⟩ := RepL.get hr (List.getElem?_eq_getElem hi)
    rw [Array.getElem?_toList, hP] at e1
    cases e1
    exact ⟨_, List.getElem?_eq_getElem hi, e2⟩

theorem it_rng {a b c : Int} (n : Nat) (hs : Builtin.Range.small a b c = true) (hn : Builtin.Range.rangeSize a b c = (n : Int)) : Iters C (.rng a b c) ((List.range n).map fun i : Nat => .int (a + (i : Int) * c)) := by
  rintro μ A s Q E v G ⟨⟩ hh cont
  rename_i r t u x hr
  refine wpAny_pyIter_range (hid_ext μ s.heap _ _ hr) hs ?_
  have W := (Walks.range (prog := C.prog) (w := C.w) hh s.heap.objs.size a c n).bound
  refine cont _ _ s.toks _ _ _ (push_ext _ _) (fresh_size _) (by simpa using W) ?_ ?_ (by show IsRangeIter _ _ _ _ _; rw [hn]; simpa using Heap.get?_push_size _ rfl) ?_
  · intro b hb; exact .inl (List.mem_singleton.mp hb)
  · intro i h e; exact ⟨_, e, fun v z => by cases z⟩
  · rintro i v' ⟨hi, t', rfl⟩
    exact ⟨_, by simp [hi], .int _ _⟩

theorem isInt_val {x : Int} {v : Value} (h : (intKind C.prog C.w).is x v = true) : ∃ t, v = .int x t := Value.isInt_shape h

theorem IntVals.at {l : List (Int × Value)} (h : IntVals l kvs) : ∀ {i : Nat} {x : Int} {v : Value}, l[i]? = some (x, v) → ∃ c t, v = .int c t ∧ kvs[i]? = some (x, c) := by
  induction h with
  | nil => intro i x v e; simp at e
  | @cons k c t l l' _ ih =>
    intro i x v e
    cases i with
    | zero => simp at e; obtain ⟨rfl, rfl⟩ := e; exact ⟨c, t, rfl, by simp⟩
    | succ i => simp only [List.getElem?_cons_succ] at e ⊢; exact ih e

theorem it_dict : Iters C (.dict kvs) (kvs.map fun p => .int p.1) := by
  rintro μ A s Q E v G ⟨⟩ hh cont
  rename_i a l hd n hi
  obtain ⟨ep, hd1⟩ := hd.dictAt
  have hd' := hd1.at' (h' := s.heap) fun o e => hid_ext μ s.heap _ o e
  obtain ⟨oa, es, ha, _⟩ := hd1
  have hne : a ≠ s.heap.objs.size := Nat.ne_of_lt (Heap.lt_size (of_hideAll _ ha))
  refine wpAny_pyIter_dict n hd' ?_
  have W := Walks.dictKeys (knd := intKind C.prog C.w) hh s.heap.objs.size a hne l ep
  have hlen : l.length = (kvs.map fun p => D.int p.1).length := by rw [List.length_map, hi.length]
  rw [hlen] at W
  refine cont _ _ s.toks _ _ _ (push_ext _ _) (fresh_size _) W ?_ ?_ ⟨⟨_, Heap.get?_push_size _ rfl, rfl, by rw [hlen]; rfl⟩, hd'.at' fun o e => Heap.get?_push_of_some _ e⟩ ?_
  · intro b hb
    rcases List.mem_cons.mp hb with rfl | hb
    · exact .inl rfl
    · rw [List.mem_singleton.mp hb]; exact .inr ⟨_, ha⟩
  · rintro i h ⟨⟨o, e, _, q⟩, _⟩; exact ⟨o, e, fun v z => by rw [q] at z; cases z⟩
  · intro i v' hP
    obtain ⟨x, u, e1, e2⟩ := hP
    obtain ⟨t, rfl⟩ := isInt_val e2
    obtain ⟨c, t', _, e3⟩ := hi.at e1
    exact ⟨_, by rw [List.getElem?_map, e3]; rfl, .int _ _⟩

theorem it_vals : Iters C (.vals kvs) (kvs.map fun p => .int p.2) := by
  rintro μ A s Q E v G ⟨⟩ hh cont
  rename_i vw a l hv hd n hi
  obtain ⟨ep, hd1⟩ := hd.dictAt
  have hd' := hd1.at' (h' := s.heap) fun o e => hid_ext μ s.heap _ o e
  obtain ⟨oa, es, ha, _⟩ := hd1
  have hne : a ≠ s.heap.objs.size := Nat.ne_of_lt (Heap.lt_size (of_hideAll _ ha))
  refine wpAny_pyIter_values (let ⟨o, e, q⟩ := hv; ⟨o, of_hideAll _ e, q⟩) hd' ?_
  have W := Walks.dictValues (knd := intKind C.prog C.w) hh s.heap.objs.size a hne l ep
  have hlen : l.length = (kvs.map fun p => D.int p.2).length := by rw [List.length_map, hi.length]
  rw [hlen] at W
  refine cont _ _ s.toks _ _ _ (push_ext _ _) (fresh_size _) W ?_ ?_ ⟨⟨_, Heap.get?_push_size _ rfl, rfl, by rw [hlen]; rfl⟩, hd'.at' fun o e => Heap.get?_push_of_some _ e⟩ ?_
  · intro b hb
    rcases List.mem_cons.mp hb with rfl | hb
    · exact .inl rfl
    · rw [List.mem_singleton.mp hb]; exact .inr ⟨_, ha⟩
  · rintro i h ⟨⟨o, e, _, q⟩, _⟩; exact ⟨o, e, fun v z => by rw [q] at z; cases z⟩
  · rintro i v' ⟨x, e1⟩
    obtain ⟨c, t', rfl, e3⟩ := hi.at e1
    exact ⟨_, by rw [List.getElem?_map, e3]; rfl, .int _ _⟩

/-- what a method's self must be -/
noncomputable def Slf (C : Cx) (T : String) (d : D) : Prop := ∀ (μ : List Addr) (s : Shared) (v : Value), Rep C (hideAll s.heap μ) v d → s.TypeIs v T ∧ ∀ a, v = .ref a → ∃ ob, s.heap.get? a = some ob ∧ ob.dict = none
theorem slf_int {i : Int} : Slf C "int" (.int i) := by
  rintro μ s v ⟨⟩; exact ⟨typeIs_int s _ _, fun a e => nomatch e⟩
theorem slf_list : Slf C "list" (.list ds) := by
  rintro μ s v ⟨⟩
  rename_i a vs hl hr
  obtain ⟨n, e⟩ := hl
  exact ⟨⟨_, of_hideAll _ e, rfl⟩, fun a' q => by cases q; exact ⟨_, of_hideAll _ e, rfl⟩⟩
theorem slf_dict : Slf C "dict" (.dict kvs) := by
  rintro μ s v ⟨⟩
  rename_i a l hd n hi
  have hd' := hd.keep (hid_ext μ s.heap)
  exact ⟨hd'.typeIs, hd'.mapOf.noDict⟩

theorem ev_meth {o e : Expr} {name : Str} {args : List Expr} {apos pos : Pos} {T id : String} (slf : Slf C T d₀) (pa : PlainAttrs T) (slot : Slot T name id) (hty : typeOf (.builtin id) = pure (.type "method_descriptor"))
    (ho : Ev C k env ρ X o d₀) (ha : EvL C k env ρ X pos (e :: args) ds) (hc : ∀ v vs, Ok C k (fun μ h => Dt C d₀ v μ h ∧ DtL C ds vs μ h) (call (.builtin id) (v :: vs)) (Dt C d))
    (hbase : attributeBase o name env (eval o env) = eval o env := by rfl)
    (hfew : ((backTo pos (starEach (e :: args) env)).all (fun x => !x.1) && (backToKw pos (keywordEach [] env)).all (fun x => x.1.isSome) && decide ((e :: args).length + ([] : List Keyword).length + (if ([] : List Keyword).isEmpty then 0 else 1) < 30)) = true := by rfl)
    (hline : (apos.endLine == pos.line) = true := by rfl)
    (hs : starEach (e :: args) env = (false, eval e env) :: starEach args env := by rfl) (hp : (backTo pos (starEach args env)).any (·.1) = false := by rfl) : Ev C k env ρ X (.Call (.Attribute o name apos) (e :: args) [] pos) d := by
  intro μ A s Q E G p rm ret
  refine wpAny_Call_method hbase hfew hline pa slot hty (ho μ A s _ E G p rm fun v₁ h₁ tk₁ k₁ G₁ r₁ => ?_)
  obtain ⟨t1, t2⟩ := slf μ { s with heap := h₁, toks := tk₁ } v₁ r₁
  refine ⟨t1, t2, ?_⟩
  have ha' := ha μ A { s with heap := h₁, toks := tk₁ }
  rw [hs] at ha' ⊢
  refine callWith_of (P := fun h => Good C μ h) (by show ((false || (backTo pos (starEach args env)).any (·.1)) || false) = false; rw [hp]; rfl) (fun h G => kp_builtin μ h G) (evalArgs_plain ?_)
  refine ha' _ E G₁ (Cn.stable _ _ _ G k₁ G₁ p) rm fun vs h₂ tk₂ k₂ G₂ r₂ => ⟨G₂, ?_⟩
  exact hc v₁ vs μ A _ _ E G₂ ⟨Dt.stable _ _ _ _ G₁ k₂ G₂ r₁, r₂⟩ rm fun v h' tk k₃ G₃ r₃ => ret v h' tk ((k₁.trans k₂).trans k₃) G₃ r₃

theorem ev_meth0 {o : Expr} {name : Str} {apos pos : Pos} {T id : String} (slf : Slf C T d₀) (pa : PlainAttrs T) (slot : Slot T name id) (hty : typeOf (.builtin id) = pure (.type "method_descriptor"))
    (ho : Ev C k env ρ X o d₀) (hc : ∀ v, Ok C k (Dt C d₀ v) (call (.builtin id) [v]) (Dt C d))
    (hbase : attributeBase o name env (eval o env) = eval o env := by rfl)
    (hfew : ((backTo pos (starEach [] env)).all (fun x => !x.1) && (backToKw pos (keywordEach [] env)).all (fun x => x.1.isSome) && decide (([] : List Expr).length + ([] : List Keyword).length + (if ([] : List Keyword).isEmpty then 0 else 1) < 30)) = true := by rfl)
    (hline : (apos.endLine == pos.line) = true := by rfl) : Ev C k env ρ X (.Call (.Attribute o name apos) [] [] pos) d := by
  intro μ A s Q E G p rm ret
  refine wpAny_Call_method hbase hfew hline pa slot hty (ho μ A s _ E G p rm fun v₁ h₁ tk₁ k₁ G₁ r₁ => ?_)
  obtain ⟨t1, t2⟩ := slf μ { s with heap := h₁, toks := tk₁ } v₁ r₁
  refine ⟨t1, t2, ?_⟩
  show wpAny _ _ (callWith pos (.builtin id) [v₁] [] []) Q E _
  refine callWith_of (P := fun h => Good C μ h) rfl (fun h G => kp_builtin μ h G) (evalArgs_nil3 ⟨G₁, ?_⟩)
  exact hc v₁ μ A _ _ E G₁ r₁ rm fun v h' tk k₃ G₃ r₃ => ret v h' tk (k₁.trans k₃) G₃ r₃

theorem ev_values {o : Expr} {apos pos : Pos} (ho : Ev C k env ρ X o (.dict kvs)) (hbase : attributeBase o "values" env (eval o env) = eval o env := by rfl) (hline : (apos.endLine == pos.line) = true := by rfl) : Ev C k env ρ X (.Call (.Attribute o "values" apos) [] [] pos) (.vals kvs) := by
  refine ev_meth0 slf_dict F.plainAttrs_dict F.slot_dict_values F.type_dict_values ho ?_ hbase rfl hline
  rintro v μ A s Q E G ⟨⟩ rm ret
  rename_i a l hd n hi
  have hd' := hd.keep (hid_ext μ s.heap)
  refine call_meetsIn F.slot_dict_values hd'.typeIs F.entry_dict_values (F.args_dict_values_1 _) (meets_dict_values (intKind C.prog C.w) a n) ⟨⟨l, hd'⟩, ?_⟩
  exact new_ret (tk := s.toks) G ret fun h1 h2 => .vals ⟨_, h1, rfl, rfl⟩ (hd.keep h2) n hi
theorem ev_items {o : Expr} {apos pos : Pos} (ho : Ev C k env ρ X o (.dict kvs)) (hbase : attributeBase o "items" env (eval o env) = eval o env := by rfl) (hline : (apos.endLine == pos.line) = true := by rfl) : Ev C k env ρ X (.Call (.Attribute o "items" apos) [] [] pos) (.items kvs) := by
  refine ev_meth0 slf_dict F.plainAttrs_dict F.slot_dict_items F.type_dict_items ho ?_ hbase rfl hline
  rintro v μ A s Q E G ⟨⟩ rm ret
  rename_i a l hd n hi
  have hd' := hd.keep (hid_ext μ s.heap)
  refine call_meetsIn F.slot_dict_items hd'.typeIs F.entry_dict_items (F.args_dict_items_1 _) (meets_dict_items (intKind C.prog C.w) a n) ⟨⟨l, hd'⟩, ?_⟩
  exact new_ret (tk := s.toks) G ret fun h1 h2 => .items ⟨_, h1, rfl, rfl⟩ (hd.keep h2) n hi
theorem ev_bitlen {o : Expr} {apos pos : Pos} {i : Int} (ho : Ev C k env ρ X o (.int i)) (hbase : attributeBase o "bit_length" env (eval o env) = eval o env := by rfl) (hline : (apos.endLine == pos.line) = true := by rfl) : Ev C k env ρ X (.Call (.Attribute o "bit_length" apos) [] [] pos) (.int (Builtin.Int.intBits i)) := by
  refine ev_meth0 slf_int F.plainAttrs_int F.slot_int_bit_length F.type_int_bit_length ho ?_ hbase rfl hline
  rintro v μ A s Q E G ⟨⟩ rm ret
  (with_reducible refine call_int_bit_length ?_)
  exact ret _ s.heap _ KH.rfl G (.int _ _)
end
end Mine

open PySem PySem.W PyProof.Rows PySem.Spec PySem.Calls
set_option Elab.async false
set_option maxRecDepth 100000
set_option linter.unusedVariables false
namespace Mine

section
variable {C : Cx} {k : Nat} {A : Around} {env : Env} {cs : List (Str × Addr)} {ρ ρ' : List (Str × D)} {own own' : List (Addr × OD)} {b b' : Heap} {f s s₀ : Shared} {μ μ₀ μ₁ W : List Addr} {d d₁ d₂ : D} {h' : Heap} {tk : Nat} {kvs : List (Int × Int)}
  {Q : Flow → Shared → Prop} {E : Value → Shared → Prop} {rest : List Stmt}

theorem b_iadd {a b : Int} : Bin C k (inplaceOp .Add) (.int a) (.int b) (.int (a + b)) := by
  rintro v₁ v₂ μ A s Q E G ⟨⟨⟩, ⟨⟩⟩ rm ret; (with_reducible refine PyProof.Rows.iadd_int ?_); exact ret _ s.heap _ KH.rfl G (.int _ _)

theorem x_aug {x : Str} {p pos : Pos} {op : Operator} {e : Expr} (F : Fm C b f μ₀ env cs ρ own s) (rm : Room k A) (hl : ρ.lookup x = some d₁) (he : Ev C k env ρ (OwnX C own) e d₂) (ho : Bin C k (inplaceOp op) d₁ d₂ d) (hx : Kd env cs x)
    (cont : ∀ s', Fm C b f μ₀ env cs ((x, d) :: ρ) own s' → wpAny (model C.prog C.w) A (execs rest env) Q E s') : wpAny (model C.prog C.w) A (execs (.AugAssign (.Name x p) op e pos :: rest) env) Q E s := by
  obtain ⟨v, r1, r2, _⟩ := F.sees.1 x d₁ hl
  refine x_cons (wpAny_AugAssign_Name (r2 A _ E s (hid_ext _ _) (F.ev rm he fun v₂ s₂ F₂ kh₂ _ r₃ => ?_)))
  refine ho v v₂ _ A s₂ _ E F₂.co.good ⟨Dt.stable _ _ _ _ F.co.good kh₂ F₂.co.good r1, r₃⟩ rm fun v₃ h₃ tk₃ k₃ G₃ r₄ => ?_
  exact (F₂.pure k₃ G₃).store hx r₄ fun h' tk F'' => cont _ F''

noncomputable def LookAll (ρ : List (Str × D)) : List (Str × D) → Prop
  | [] => True
  | p :: r => ρ.lookup p.1 = some p.2 ∧ LookAll ρ r
theorem weak_all : ∀ {ρ' : List (Str × D)}, LookAll ρ ρ' → ∀ y d, ρ'.lookup y = some d → ρ.lookup y = some d
  | p :: r, h, y, d, e => by
    rw [List.lookup_cons] at e
    by_cases q : y = p.1
    · subst q; simp at e; subst e; exact h.1
    · rw [show (y == p.1) = false from beq_eq_false_iff_ne.mpr q] at e; exact weak_all h.2 y d e

theorem map_at {α : Type} {l : List α} {g : α → D} {i : Nat} {d : D} (h : (l.map g)[i]? = some d) : ∃ x, l[i]? = some x ∧ d = g x ∧ l.take (i + 1) = l.take i ++ [x] := by
  rw [List.getElem?_map] at h
  obtain ⟨x, e1, e2⟩ := Option.map_eq_some_iff.mp h
  exact ⟨x, e1, e2.symm, by rw [List.take_add_one, e1]; rfl⟩

theorem count_calls_ok : Fn C (k + 1) (.ref 28) [.dict kvs] (.int (kvs.map (·.2)).sum) := by
  rintro vs μ A s Q E G ⟨⟩ rm ret
  rename_i v vs h r
  cases r
  refine enter [(Str.ofString "callers", v, .dict kvs)] G rm rfl rfl rfl rfl rfl rfl rfl (by decide) rfl rfl rfl rfl rfl ⟨h, trivial⟩ (fun L s₁ A' E' F rm' => ?_) ret
  refine x_assign F rm' ev_int (.inl rfl) fun s₂ F₂ => ?_
  refine x_for (fun i => [(Str.ofString "nc", .int ((kvs.take i).map (·.2)).sum)]) (fun _ => []) F₂ rm' (ev_values (ev_name rfl)) it_vals (.inl rfl) (fun _ => rfl) rfl (weak_all ⟨rfl, trivial⟩) ?_ ?_
  · intro i d' hd' b' μ' s' E' F'
    obtain ⟨p, e1, rfl, e2⟩ := map_at hd'
    refine x_aug F' rm' rfl (ev_name rfl) b_iadd (.inl rfl) fun s'' F'' => x_nil ⟨rfl, F''.weak (weak_all ⟨?_, trivial⟩)⟩
    rw [e2]; simp [List.lookup]
  · intro s₃ F₃
    refine x_return F₃ rm' (ev_name rfl) fun v s' F' r => ?_
    have := F'.ret r
    simpa using this
end
end Mine

open PySem PySem.W PyProof.Rows PySem.Spec PySem.Calls
set_option Elab.async false
set_option maxRecDepth 100000
set_option linter.unusedVariables false
namespace Mine

section
variable {C : Cx} {k : Nat} {A : Around} {env : Env} {cs : List (Str × Addr)} {ρ ρ' : List (Str × D)} {own own' : List (Addr × OD)} {b b' : Heap} {f s s₀ : Shared} {μ μ₀ μ₁ W : List Addr} {d d₁ d₂ : D} {h' : Heap} {tk : Nat} {kvs : List (Int × Int)} {a : Addr} {od od' : OD}
  {Q : Flow → Shared → Prop} {E : Value → Shared → Prop} {rest : List Stmt}

theorem Wl_one_mem : ∀ y, y ∈ Wl env cs [(a, od)] ↔ y ∈ Wl env cs [] ∨ y = a := by
  intro y; unfold Wl; simp only [List.map_nil, List.map_cons, List.append_nil, List.mem_cons, List.mem_append, List.not_mem_nil, or_false]
  constructor
  · rintro (h | h | h)
    · exact .inl (.inl h)
    · exact .inl (.inr h)
    · exact .inr h
  · rintro ((h | h) | h)
    · exact .inl h
    · exact .inr (.inl h)
    · exact .inr (.inr h)

/-- a new object is the frame's own -/
theorem Fm.ownNew (F : Fm C b f μ₀ env cs ρ [] s) (x : Ext s.heap h') (hn : s.heap.get? a = none) (ho : Ext (hideAll s.heap (Wl env cs [] ++ μ₀)) (hideAll h' (Wl env cs [(a, od)] ++ μ₀)) → OwnAt C (hideAll h' (Wl env cs [(a, od)] ++ μ₀)) h' a od) :
    Fm C b f μ₀ env cs ρ [(a, od)] { s with heap := h', toks := tk } := by
  have gx : Ext (hideAll s.heap (Wl env cs [] ++ μ₀)) (hideAll h' (Wl env cs [(a, od)] ++ μ₀)) := hid_mono fun y o n e => ⟨x y o e, fun hm => by
    rcases List.mem_append.mp hm with hm | hm
    · rcases (Wl_one_mem y).mp hm with hm | rfl
      · exact n (List.mem_append_left _ hm)
      · rw [hn] at e; cases e
    · exact n (List.mem_append_right _ hm)⟩
  have ho' := ho gx
  have haW : a ∉ Wl env cs [] := fun hm => by
    obtain ⟨o, e⟩ := F.co.good.low a (List.mem_append_left _ hm); rw [hn] at e; cases e
  have haμ : a ∉ μ₀ := fun hm => by
    obtain ⟨o, e⟩ := F.co.good.low a (List.mem_append_right _ hm); rw [hn] at e; cases e
  have hbn : b.get? a = none := by
    cases q : b.get? a with
    | none => rfl
    | some o => have := F.co.keep a o q; rw [hn] at this; cases this
  refine ⟨⟨let ⟨h, t, e⟩ := F.co.same; ⟨h', tk, by rw [e]⟩, ?_, F.co.tb, fun y o e => x y o (F.co.keep y o e), F.co.btb, ?_, fun y hy => ?_, fun y hy => ?_⟩, F.envF, ?_, fun y c e => ?_, fun y d e => ?_, fun p hp => ?_⟩
  · refine F.co.good.turn gx (fun P hP => List.mem_append_right _ (F.co.tb P hP)) (fun y hy => ?_) fun P _ o e => x P o e
    rcases List.mem_append.mp hy with hy | hy
    · rcases (Wl_one_mem y).mp hy with hy | rfl
      · obtain ⟨o, e⟩ := F.co.good.low y (List.mem_append_left _ hy); exact ⟨o, x y o e⟩
      · exact ho'.here
    · obtain ⟨o, e⟩ := F.co.good.low y (List.mem_append_right _ hy); exact ⟨o, x y o e⟩
  · have hnd := F.co.nodup
    unfold Wl at hnd haW ⊢
    simp only [List.map_nil, List.map_cons, List.append_nil] at hnd haW ⊢
    rw [← List.cons_append]
    refine List.nodup_append.mpr ⟨hnd, by simp, fun y hy z hz => ?_⟩
    rw [List.mem_singleton.mp hz]
    exact fun q => haW (q ▸ hy)
  · rcases (Wl_one_mem y).mp hy with hy | rfl
    · exact F.co.priv y hy
    · exact ⟨hbn, F.co.good.tb hn⟩
  · rcases (Wl_one_mem y).mp hy with hy | rfl
    · exact F.co.disj y hy
    · exact haμ
  · obtain ⟨m, h1, h2⟩ := F.ns
    exact ⟨m, h1.keeps x, fun y d e hk => let ⟨v, e1, e2⟩ := h2 y d e hk; ⟨v, e1, e2.mono gx⟩⟩
  · obtain ⟨e1, ov, c1, h2⟩ := F.cell y c e
    exact ⟨e1, ov, c1.keeps x, fun d ed hk => let ⟨v, e2, e3⟩ := h2 d ed hk; ⟨v, e2, e3.mono gx⟩⟩
  · rcases F.kinds y d e with h | h | ⟨h1, h2, c, v, h3, h4, h5, h6, h7⟩
    · exact .inl h
    · exact .inr (.inl h)
    · refine .inr (.inr ⟨h1, h2, c, v, h3, fun hm => ?_, h5, h6.keeps x, h7.mono gx⟩)
      rcases (Wl_one_mem c).mp hm with hm | rfl
      · exact h4 hm
      · obtain ⟨o, e, _⟩ := h6; rw [hn] at e; cases e
  · rw [List.mem_singleton.mp hp]; exact ho'

/-- the frame's own object turned -/
theorem Fm.ownTurn (F : Fm C b f μ₀ env cs ρ [(a, od)] s) (hs : Heap.SameBut a s.heap h') (ho : Ext (hideAll s.heap (Wl env cs [(a, od)] ++ μ₀)) (hideAll h' (Wl env cs [(a, od)] ++ μ₀)) → OwnAt C (hideAll h' (Wl env cs [(a, od)] ++ μ₀)) h' a od') :
    Fm C b f μ₀ env cs ρ [(a, od')] { s with heap := h', toks := tk } := by
  have haW : a ∈ Wl env cs [(a, od)] := (Wl_one_mem a).mpr (.inr rfl)
  have gx : Ext (hideAll s.heap (Wl env cs [(a, od)] ++ μ₀)) (hideAll h' (Wl env cs [(a, od)] ++ μ₀)) := hid_mono fun y o n e => ⟨(hs.2 y fun q => n (List.mem_append_left _ (by rw [q]; exact haW))).trans e, n⟩
  have ho' := ho gx
  obtain ⟨co, _⟩ := F.co.upd (tk := tk) haW hs ho'.here
  have hnd := F.co.nodup
  have haL : a ≠ env.locals ∧ ∀ x c, cs.lookup x = some c → c ≠ a := by
    unfold Wl at hnd
    have h1 := List.nodup_cons.mp hnd
    have h2 := List.nodup_append.mp h1.2
    refine ⟨fun q => h1.1 (List.mem_append_right _ (by rw [← q]; simp)), fun x c e q => ?_⟩
    exact h2.2.2 c (List.mem_map.mpr ⟨(x, c), mem_of_lookup e, rfl⟩) a (by simp) q
  refine ⟨co, F.envF, ?_, fun y c e => ?_, fun y d e => ?_, fun p hp => ?_⟩
  · obtain ⟨m, h1, h2⟩ := F.ns
    exact ⟨m, h1.sameBut hs (Ne.symm haL.1), fun y d e hk => let ⟨v, e1, e2⟩ := h2 y d e hk; ⟨v, e1, e2.mono gx⟩⟩
  · obtain ⟨e1, ov, c1, h2⟩ := F.cell y c e
    exact ⟨e1, ov, c1.sameBut hs (haL.2 y c e), fun d ed hk => let ⟨v, e2, e3⟩ := h2 d ed hk; ⟨v, e2, e3.mono gx⟩⟩
  · rcases F.kinds y d e with h | h | ⟨h1, h2, c, v, h3, h4, h5, h6, h7⟩
    · exact .inl h
    · exact .inr (.inl h)
    · exact .inr (.inr ⟨h1, h2, c, v, h3, h4, h5, h6.sameBut hs (fun q => h4 (q ▸ haW)), h7.mono gx⟩)
  · rw [List.mem_singleton.mp hp]; exact ho'

theorem Good.sysmod {h : Heap} (G : Good C μ h) : (h.objs.size == sysModules) = false := by
  obtain ⟨o, e⟩ := G.low 171 (G.sub 171 (by decide))
  have := Heap.lt_size e
  exact beq_eq_false_iff_ne.mpr fun q => by rw [q] at this; exact absurd this (by decide)

theorem x_newDict {x : Str} {p p' pos : Pos} (F : Fm C b f μ₀ env cs ρ [] s) (hx : Kd env cs x)
    (cont : ∀ a s', Fm C b f μ₀ env cs ((x, .val (.ref a)) :: ρ) [(a, .dict [])] s' → wpAny (model C.prog C.w) A (execs rest env) Q E s') :
    wpAny (model C.prog C.w) A (execs (.Assign [.Name x p] (.Dict [] [] p') pos :: rest) env) Q E s := by
  refine x_cons (wpAny_Assign_Name (wpAny_Dict_empty ?_) rfl)
  have F' := F.ownNew (a := s.heap.objs.size) (od := .dict []) (tk := s.toks) (push_ext _ { cls := .type "dict", data := .dict #[] }) (fresh_size _) fun gx => ⟨[], Heap.DictOf.new s.heap, F.co.good.sysmod, .nil⟩
  exact F'.store hx (.val _) fun h' tk F'' => cont _ _ F''
theorem x_newList {x : Str} {p p' pos : Pos} (F : Fm C b f μ₀ env cs ρ [] s) (hx : Kd env cs x)
    (cont : ∀ a s', Fm C b f μ₀ env cs ((x, .val (.ref a)) :: ρ) [(a, .list [])] s' → wpAny (model C.prog C.w) A (execs rest env) Q E s') :
    wpAny (model C.prog C.w) A (execs (.Assign [.Name x p] (.List [] p') pos :: rest) env) Q E s := by
  refine x_cons (wpAny_Assign_Name (List_ (spliced_nil (wpAny_newObj_type ?_))) rfl)
  have F' := F.ownNew (a := s.heap.objs.size) (od := .list []) (tk := s.toks) (push_ext _ { cls := .type "list", data := .seq #[] }) (fresh_size _) fun gx => ⟨#[], ⟨0, Heap.get?_push_size _ rfl⟩, .nil⟩
  exact F'.store hx (.val _) fun h' tk F'' => cont _ _ F''

/-- a list of the frame's own gets one more item -/
theorem x_append {xs : Str} {e : Expr} {p1 apos cpos pos : Pos} {ds : List D} (F : Fm C b f μ₀ env cs ρ [(a, .list ds)] s) (rm : Room k A) (hl : ρ.lookup xs = some (.val (.ref a))) (he : Ev C k env ρ (OwnX C [(a, .list ds)]) e d) (hz : ds.length ≤ 2 ^ 20)
    (cont : ∀ s', Fm C b f μ₀ env cs ρ [(a, .list (ds ++ [d]))] s' → wpAny (model C.prog C.w) A (execs rest env) Q E s')
    (hd : (xs == ("__debug__" : Str)) = false := by decide) (hs : swapsWith (.Call (.Attribute (.Name xs p1) "append" apos) [e] [] cpos) none pos.line env = pure false := by rfl)
    (hfew : ((backTo cpos (starEach [e] env)).all (fun x => !x.1) && (backToKw cpos (keywordEach [] env)).all (fun x => x.1.isSome) && decide ([e].length + ([] : List Keyword).length + (if ([] : List Keyword).isEmpty then 0 else 1) < 30)) = true := by rfl)
    (hline : (apos.endLine == cpos.line) = true := by rfl) (hst : starEach [e] env = [(false, eval e env)] := by rfl) (hi : interactive env = false := by rfl) :
    wpAny (model C.prog C.w) A (execs (.Expr (.Call (.Attribute (.Name xs p1) "append" apos) [e] [] cpos) pos :: rest) env) Q E s := by
  refine x_cons (wpAny_Expr_any ?_ hi hs)
  refine wpAny_Call_method (T := "list") (id := "list.append") rfl hfew hline PySem.F.plainAttrs_list PySem.F.slot_list_append PySem.F.type_list_append (F.ev rm (ev_name hl hd) fun v s₁ F₁ _ _ r => ?_)
  cases r
  obtain ⟨vs, ⟨n, hp⟩, hr⟩ := F₁.ownd _ (List.mem_singleton.mpr rfl)
  refine ⟨⟨_, hp, rfl⟩, fun a' q => by cases q; exact ⟨_, hp, rfl⟩, ?_⟩
  rw [hst]
  refine callWith_of (P := fun h => True) rfl (fun h G => ⟨.machine, .inr (.inl rfl), Looks.of_pure rfl⟩) (evalArgs_plain (spliced_cons ?_))
  refine F₁.ev rm he fun v₂ s₂ F₂ _ _ r₂ => spliced_nil ⟨trivial, ?_⟩
  obtain ⟨vs₂, hp₂, hr₂⟩ := F₂.ownd _ (List.mem_singleton.mpr rfl)
  have hlen := repL_length hr₂
  refine wpAny_list_append_plain hp₂ (fun h₃ hp₃ hs₃ => ?_) (by have : vs₂.size = ds.length := by simpa using hlen
                                                                rw [this]; exact Nat.le_trans hz (by decide))
  exact cont _ (F₂.ownTurn (tk := s₂.toks) hs₃ fun gx => ⟨_, hp₃, by rw [Array.toList_push]; exact (hr₂.mono gx).append (.cons (r₂.mono gx) .nil)⟩)
end
end Mine

open PySem PySem.W PyProof.Rows PySem.Spec PySem.Calls
set_option Elab.async false
set_option maxRecDepth 100000
set_option linter.unusedVariables false
namespace Mine

noncomputable def OD.view : OD → D
  | .list ds => .list ds
  | .dict kvs => .dict kvs
  | .seq ds => .scr ds

section
variable {C : Cx} {k : Nat} {A : Around} {env : Env} {cs : List (Str × Addr)} {ρ ρ' : List (Str × D)} {own own' : List (Addr × OD)} {b b' : Heap} {f s s₀ : Shared} {μ μ₀ μ₁ W : List Addr} {d d₁ d₂ : D} {h' : Heap} {tk : Nat} {kvs : List (Int × Int)} {a : Addr} {od od' : OD}
  {Q : Flow → Shared → Prop} {E : Value → Shared → Prop} {rest : List Stmt}

theorem OwnAt.view {g g' h : Heap} (x : Ext g g') (e : ∀ o, h.get? a = some o → g'.get? a = some o) : ∀ {od : OD}, OwnAt C g h a od → Rep C g' (.ref a) od.view
  | .list ds, ⟨vs, p, r⟩ => .list (p.at e) (r.mono x)
  | .dict kvs, ⟨l, p, n, r⟩ => .dict (p.at e) n r
  | .seq ds, ⟨vs, p, r⟩ => .scr (p.at e) (r.mono x)
theorem OwnAt.data {g h : Heap} : ∀ {od : OD}, OwnAt C g h a od → ∃ o, h.get? a = some o ∧ ∀ vs, o.data ≠ .fields vs
  | .list ds, ⟨vs, ⟨n, p⟩, r⟩ => ⟨_, p, fun _ e => nomatch e⟩
  | .dict kvs, ⟨l, ⟨o, es, ep, p, _, q, _⟩, n, r⟩ => ⟨o, p, fun _ e => by rw [q] at e; cases e⟩
  | .seq ds, ⟨vs, ⟨o, p, _, n, q⟩, r⟩ => ⟨o, p, fun _ e => by rw [q] at e; cases e⟩

noncomputable abbrev wo (a : Addr) (μ : List Addr) : List Addr := μ.filter fun y => y != a
theorem mem_wo {y : Addr} : y ∈ wo a μ ↔ y ∈ μ ∧ y ≠ a := by simp [wo, List.mem_filter]

theorem Ok.seen {α : Type} {t : Sem α} {R : α → Asrt} {x : Str} (hl : ρ.lookup x = some (.val (.ref a))) (h : Ok C k (Cn C env ((x, od.view) :: ρ) SA.tt) t R)
    (hR : ∀ v μ h, OwnAt C (hideAll h μ) h a od → R v (wo a μ) h → R v μ h) : Ok C k (Cn C env ρ (OwnX C [(a, od)])) t R := by
  intro μ A s Q E G p rm ret
  obtain ⟨hat, hoa⟩ := p.2 _ (List.mem_singleton.mpr rfl)
  have hsub : ∀ y ∈ wo a μ, y ∈ μ := fun y hy => (mem_wo.mp hy).1
  have htb : ∀ P ∈ TB, P ∈ wo a μ := fun P hP => mem_wo.mpr ⟨G.sub P hP, fun q => hat (q ▸ hP)⟩
  have hna : a ∉ wo a μ := fun hm => (mem_wo.mp hm).2 rfl
  refine h (wo a μ) A s Q E (G.less hsub htb) ⟨fun y d e => ?_, trivial⟩ rm fun v h' tk kh G' r => ?_
  · rw [List.lookup_cons] at e
    by_cases q : y = x
    · subst q
      simp at e
      subst e
      obtain ⟨v, r1, r2, r3⟩ := p.1 y _ hl
      cases r1
      exact ⟨_, hoa.view (hid_less hsub) fun o e => hid_get e hna, r2, r3⟩
    · rw [show (y == x) = false from beq_eq_false_iff_ne.mpr q] at e
      obtain ⟨v, r1, r2, r3⟩ := p.1 y d e
      exact ⟨v, r1.mono (hid_less hsub), r2, r3⟩
  · have hoa' : OwnAt C (hideAll h' μ) h' a od := hoa.mono (KH.hid G.sub kh) fun o e => kh a o hat e
    have G'' : Good C μ h' := G.on kh fun q hq => by
      obtain ⟨ps, e1, e2, e3⟩ := G'.tabs q hq
      refine ⟨ps, e1, e2, fun pos c e => ?_⟩
      obtain ⟨c', o, vs, t, rfl, f1, f2, f3⟩ := e3 pos c e
      obtain ⟨f4, f5⟩ := hid_inv f1
      refine ⟨c', o, vs, t, rfl, hid_get f4 fun hm => f5 (mem_wo.mpr ⟨hm, fun q => ?_⟩), f2, f3⟩
      obtain ⟨o', g1, g2⟩ := hoa'.data
      rw [q, g1] at f4
      cases f4
      exact g2 _ f2
    exact ret v h' tk kh G'' (hR v μ h' hoa' r)

theorem ev_own {x : Str} {e : Expr} (hl : ρ.lookup x = some (.val (.ref a))) (he : Ev C k env ((x, od.view) :: ρ) SA.tt e d)
    (hR : ∀ v μ h, OwnAt C (hideAll h μ) h a od → Dt C d v (wo a μ) h → Dt C d v μ h) : Ev C k env ρ (OwnX C [(a, od)]) e d := Ok.seen hl he hR
theorem evb_own {x : Str} {e : Expr} {c : Bool} (hl : ρ.lookup x = some (.val (.ref a))) (he : EvB C k env ((x, od.view) :: ρ) SA.tt e c) : EvB C k env ρ (OwnX C [(a, od)]) e c := Ok.seen hl he fun _ _ _ _ r => r
theorem own_int {i : Int} : ∀ v μ h, OwnAt C (hideAll h μ) h a od → Dt C (.int i) v (wo a μ) h → Dt C (.int i) v μ h := fun v μ h _ r => by cases r; exact .int _ _
theorem own_bool {i : Bool} : ∀ v μ h, OwnAt C (hideAll h μ) h a od → Dt C (.bool i) v (wo a μ) h → Dt C (.bool i) v μ h := fun v μ h _ r => by cases r; exact .bool _
/-- a dict is no list -/
theorem own_dict {ds : List D} : ∀ v μ h, OwnAt C (hideAll h μ) h a (.seq ds) → Dt C (.dict kvs) v (wo a μ) h → Dt C (.dict kvs) v μ h := fun v μ h ho r => by
  cases r with
  | dict i n r =>
    rename_i c l
    refine .dict (i.at fun o e => ?_) n r
    obtain ⟨f4, f5⟩ := hid_inv e
    refine hid_get f4 fun hm => f5 (mem_wo.mpr ⟨hm, fun q => ?_⟩)
    obtain ⟨vs, ⟨o', p, _, n', q'⟩, _⟩ := ho
    obtain ⟨o'', es, ep, p2, _, q2, _⟩ := i
    rw [q, p] at f4
    cases f4
    rw [e] at p2
    cases p2
    rw [q2] at q'
    cases q'

theorem own_set {key : Value} {i c : Int} {t u : Tok} {Q : Unit → Shared → Prop} (F : Fm C b f μ₀ env cs ρ [(a, .dict kvs)] s) (hz : kvs.length ≤ 2 ^ 20)
    (ret : ∀ s', Fm C b f μ₀ env cs ρ [(a, .dict (dput kvs i c))] s' → Q () s') : wpAny (model C.prog C.w) A (setItem (.ref a) (.int i t) (.int c u)) Q E s := by
  obtain ⟨l, hd, hn, hi⟩ := F.ownd _ (List.mem_singleton.mpr rfl)
  refine wpAny_setItem_pairs (isInt_self i t) hd (fun h' hd' hs' => ?_) (by rw [hi.length]; exact Nat.le_trans hz (by decide))
  exact ret _ (F.ownTurn hs' fun gx => ⟨_, hd', hn, hi.put i c u⟩)

/-- d[k] = v in a dict of the frame's own -/
theorem x_setD {x : Str} {p pos' pos : Pos} {ki e : Expr} {i c : Int} (F : Fm C b f μ₀ env cs ρ [(a, .dict kvs)] s) (rm : Room k A) (hl : ρ.lookup x = some (.val (.ref a))) (hi : Ev C k env ρ (OwnX C [(a, .dict kvs)]) ki (.int i)) (he : Ev C k env ρ (OwnX C [(a, .dict kvs)]) e (.int c)) (hz : kvs.length ≤ 2 ^ 20)
    (cont : ∀ s', Fm C b f μ₀ env cs ρ [(a, .dict (dput kvs i c))] s' → wpAny (model C.prog C.w) A (execs rest env) Q E s')
    (hd : (x == ("__debug__" : Str)) = false := by decide) (hs : swapsWith e (some (.Subscript (.Name x p) ki pos')) pos.line env = pure false := by rfl) :
    wpAny (model C.prog C.w) A (execs (.Assign [.Subscript (.Name x p) ki pos'] e pos :: rest) env) Q E s := by
  refine x_cons (wpAny_Assign_Subscript (F.ev rm he fun v₁ s₁ F₁ _ _ r₁ => F₁.ev rm (ev_name hl hd) fun v₂ s₂ F₂ _ _ r₂ => F₂.ev rm hi fun v₃ s₃ F₃ _ _ r₃ => ?_) hs)
  cases r₁; cases r₂; cases r₃
  exact own_set (key := .none) F₃ hz fun s' F' => cont s' F'

/-- d[k] += v in a dict of the frame's own -/
theorem x_augD {x : Str} {p pos' pos : Pos} {ki e : Expr} {i c c₀ : Int} (F : Fm C b f μ₀ env cs ρ [(a, .dict kvs)] s) (rm : Room k A) (hl : ρ.lookup x = some (.val (.ref a))) (hi : Ev C k env ρ (OwnX C [(a, .dict kvs)]) ki (.int i)) (he : Ev C k env ρ (OwnX C [(a, .dict kvs)]) e (.int c)) (hg : dget kvs i = some c₀) (hz : kvs.length ≤ 2 ^ 20)
    (cont : ∀ s', Fm C b f μ₀ env cs ρ [(a, .dict (dput kvs i (c₀ + c)))] s' → wpAny (model C.prog C.w) A (execs rest env) Q E s')
    (hd : (x == ("__debug__" : Str)) = false := by decide) (ha : ∀ ov iv new, augStore ki ov iv new = (do holding [new, ov, iv] (setItem ov iv new); release [new, ov, iv] []; pure .next) := by intro _ _ _; rfl) :
    wpAny (model C.prog C.w) A (execs (.AugAssign (.Subscript (.Name x p) ki pos') .Add e pos :: rest) env) Q E s := by
  refine x_cons (wpAny_AugAssign_SubscriptAny (F.ev rm (ev_name hl hd) fun v₂ s₂ F₂ _ _ r₂ => F₂.ev rm hi fun v₃ s₃ F₃ _ _ r₃ => ?_) ha)
  cases r₂; cases r₃
  obtain ⟨l, hdd, hn, hii⟩ := F₃.ownd _ (List.mem_singleton.mpr rfl)
  rcases hii.get i with ⟨c', t', e1, e2⟩ | ⟨_, e2⟩
  · rw [hg] at e2; cases e2
    refine wpAny_getItem_of (isInt_self i _) hdd.mapOf e1 ?_
    refine (F₃.pure (tk := s₃.toks + 1) KH.rfl F₃.co.good).ev rm he fun v₄ s₄ F₄ _ _ r₄ => ?_
    cases r₄
    (with_reducible refine PyProof.Rows.iadd_int ?_)
    exact own_set (key := .none) (F₄.pure (tk := s₄.toks + 1) KH.rfl F₄.co.good) hz fun s' F' => cont s' F'
  · rw [hg] at e2; cases e2

theorem tupL {g : Heap} {key : Value} {x : Int} {c : Int} {t : Tok} (hk : (intKind C.prog C.w).is x key = true) : RepL C g [key, .int c t] [.int x, .int c] := by
  obtain ⟨u, rfl⟩ := isInt_val hk
  exact .cons (.int _ _) (.cons (.int _ _) .nil)

/-- for k, v in d.items() -/
theorem x_forItems {xk xv : Str} {pk pv pt pos : Pos} {x1 : Nat} {iter : Expr} {body : List Stmt} (Φ : Nat → List (Str × D)) (O : Nat → List (Addr × OD)) (F : Fm C b f μ₀ env cs ρ own s) (rm : Room k A)
    (he : Ev C k env ρ (OwnX C own) iter (.items kvs)) (hxk : Kd env cs xk) (hxv : Kd env cs xv) (hO : ∀ i, (O i).map (·.1) = own.map (·.1)) (hO0 : O 0 = own)
    (h0 : ∀ y d, (Φ 0).lookup y = some d → ρ.lookup y = some d)
    (turn : ∀ i x c, kvs[i]? = some (x, c) → ∀ b' μ' s' E', Fm C b' f μ' env cs ((xv, .int c) :: (xk, .int x) :: Φ i) (O i) s' → wpAny (model C.prog C.w) A (execs body env) (fun fl s'' => fl = .next ∧ Fm C b' f μ' env cs (Φ (i + 1)) (O (i + 1)) s'') E' s')
    (cont : ∀ s', Fm C b f μ₀ env cs (Φ kvs.length) (O kvs.length) s' → wpAny (model C.prog C.w) A (execs rest env) Q E s')
    (hs : ∀ x, foldedSetIterable iter env x = pure x := by intro _; rfl) : wpAny (model C.prog C.w) A (execs (.For (.Tuple [.Name xk pk, .Name xv pv] x1 pt) iter body [] pos :: rest) env) Q E s := by
  refine x_cons (wpAny_For (F.ev rm he fun v s₁ F₁ _ _ r => ?_) hs)
  cases r with
  | items hv hd hn hi =>
  rename_i vw dd l
  obtain ⟨ep, hd1⟩ := hd.dictAt
  have hdH := hd1.at' (h' := s₁.heap) fun o e => hid_ext _ s₁.heap _ o e
  obtain ⟨oa, es, ha, _⟩ := id hd1
  refine wpAny_pyIter_items (let ⟨o, e, q⟩ := hv; ⟨o, of_hideAll _ e, q⟩) hdH ?_
  generalize hI : s₁.heap.objs.size = I
  have hnew : s₁.heap.get? I = none := hI ▸ fresh_size _
  have hdI : dd ≠ I := fun q => by have := of_hideAll _ ha; rw [q, hnew] at this; cases this
  have hbI : b.get? I = none := by
    cases q : b.get? I with
    | none => rfl
    | some o => have := F₁.co.keep I o q; rw [hnew] at this; cases this
  have hIt : I ∉ TB := F₁.co.good.tb hnew
  have hIμ : I ∉ μ₀ := fun m => by obtain ⟨o, e⟩ := F₁.co.good.low I (List.mem_append_right _ m); rw [hnew] at e; cases e
  have hWi : ∀ i, Wl env cs (O i) = Wl env cs own := fun i => by unfold Wl; rw [hO i]
  have hlen := hi.length
  have F₂ := (F₁.hideNew (tk := s₁.toks) (push_ext s₁.heap { cls := .type "dict_itemiterator", data := .fields #[.none, .bool false, .ref dd, .int 0 0, .int l.length 0, .int ep 0, .none, .none] }) hnew (hI ▸ ⟨_, Heap.get?_push_size _ rfl⟩)).weak h0
  have gx₀ : Ext (hideAll s₁.heap (Wl env cs own ++ μ₀)) (hideAll (s₁.heap.push { cls := .type "dict_itemiterator", data := .fields #[.none, .bool false, .ref dd, .int 0 0, .int l.length 0, .int ep 0, .none, .none] }) (Wl env cs own ++ I :: μ₀)) := hid_mono fun y o n e => ⟨push_ext _ _ y o e, fun hm => by
    rcases List.mem_append.mp hm with hm | hm
    · exact n (List.mem_append_left _ hm)
    · rcases List.mem_cons.mp hm with q | hm
      · rw [q, hnew] at e; cases e
      · exact n (List.mem_append_right _ hm)⟩
  refine codeAny_forLoop_any (fun kk s' => ∃ i ok ov, Fm C b f (I :: μ₀) env cs (Φ i) (O i) s' ∧ IsItemIter s'.heap I dd i l.length ep ok ov ∧ Ext (hideAll s₁.heap (Wl env cs own ++ μ₀)) (hideAll s'.heap (Wl env cs own ++ I :: μ₀)) ∧ i ≤ l.length ∧ kk = l.length + 1 - i) ?_ (l.length + 1)
    ⟨0, .none, .none, hO0 ▸ F₂, hI ▸ Heap.get?_push_size _ rfl, gx₀, Nat.zero_le _, rfl⟩
  rintro kk s' ⟨i, ok, ov, Fi, hit, gxi, hile, rfl⟩
  have hnc : ∀ v, ¬ s'.heap.IsCell I v := fun v ⟨o, c1, c2⟩ => by rw [hit] at c1; cases c1; cases c2
  have hdi : s'.heap.DictAt (intKind C.prog C.w) dd l ep := hd1.at' fun o e => (hid_inv (gxi _ o e)).1
  cases hx : l[i]? with
  | none =>
    have hin : i = l.length := Nat.le_antisymm hile (by simpa using hx)
    refine wpAny_pyNext_items_end rm.handled hit hdi hx fun h₁ he₁ => wpAny_execs_nil ?_
    have F₃ := Fi.hideEnd (h' := h₁) (tk := s'.toks) (fun y o n e => he₁ y o n e) hbI F.co.tb hIt hIμ hnc
    rw [hin, hlen] at F₃
    exact cont _ F₃
  | some kv =>
    obtain ⟨x, v⟩ := kv
    have hlt : i < l.length := (List.getElem?_eq_some_iff.mp hx).1
    obtain ⟨c, tc, rfl, hkv⟩ := hi.at hx
    refine wpAny_pyNext_items_item hit hdi hx fun key h₁ hkey heo ht₁ hz₁ hk₁ => ?_
    refine wpAny_letOwnedTupleGo_items heo fun h₂ he₂ hs₂ => ?_
    replace hs₂ : Heap.SameBut I h₁ h₂ := hs₂
    have hiH : I < s'.heap.objs.size := Heap.lt_size hit
    have ht₂ : h₂.IsTuple s'.heap.objs.size #[key, .int c tc] := ⟨_, (hs₂.2 _ (Nat.ne_of_gt hiH)).trans ht₁, rfl, _, rfl⟩
    have hz₂ : h₂.objs.size = s'.heap.objs.size + 1 := hs₂.1.trans hz₁
    refine wpAny_assign_Tuple rm.handled ht₂ rfl rfl fun h₃ hx₃ => ?_
    replace hx₃ : Heap.ExtBut h₂.objs.size h₂ h₃ := hx₃
    have up₃ : ∀ y o, y ≠ I → s'.heap.get? y = some o → h₃.get? y = some o := fun y o n e => hx₃ y o (by rw [hz₂]; exact Nat.ne_of_lt (Nat.lt_succ_of_lt (Heap.lt_size e))) ((hs₂.2 y n).trans (hk₁ y o n e))
    have hI₃ : h₃.get? I = some _ := hx₃ I _ (by rw [hz₂]; exact Nat.ne_of_lt (Nat.lt_succ_of_lt hiH)) he₂
    have Fi₂ : Fm C b f (I :: μ₀) env cs (Φ i) (O i) { s' with heap := h₃, toks := s'.toks } := Fi.hideTurn (h' := h₃) (fun y o n e => up₃ y o n e) hbI F.co.tb hIt ⟨_, hI₃⟩ hnc
    have gx₂ : Ext (hideAll s₁.heap (Wl env cs own ++ μ₀)) (hideAll h₃ (Wl env cs own ++ I :: μ₀)) := gxi.trans (hid_mono fun y o n e => ⟨up₃ y o (fun q => n (List.mem_append_right _ (q ▸ List.mem_cons_self ..))) e, n⟩)
    have inb : ∀ y o, (hideAll h₃ (Wl env cs own ++ I :: μ₀)).get? y = some o → (hideAll h₃ (Wl env cs (O i) ++ TB)).get? y = some o := fun y o e => by
      obtain ⟨e1, e2⟩ := hid_inv e
      refine hid_get e1 fun hm => e2 ?_
      rcases List.mem_append.mp hm with hm | hm
      · exact List.mem_append_left _ (hWi i ▸ hm)
      · exact List.mem_append_right _ (List.mem_cons_of_mem _ (F.co.tb y hm))
    obtain ⟨tk, rfl⟩ := isInt_val hkey
    show wpAny _ _ (do holding [.int c tc] (assign (.Name xk pk) env (.int x tk)); do holding [] (assign (.Name xv pv) env (.int c tc)); pure ()) _ _ _
    refine wpAny_bind (wpAny_holding (wpAny_assign_Name (Fi₂.rebase.store (d := .int x) hxk (.int _ _) fun h₄ tk₄ F₄ => ?_)))
    refine wpAny_bind (wpAny_holding (wpAny_assign_Name (F₄.store (d := .int c) hxv (.int _ _) fun h₅ tk₅ F₅ => wpAny_pure ?_)))
    refine wpAny_mono (turn i x c hkv _ _ _ _ F₅) (fun fl s₆ h₆ => ?_) fun _ _ e => e
    obtain ⟨rfl, F₆⟩ := h₆
    refine ⟨l.length + 1 - (i + 1), by lia, i + 1, _, _, Fi₂.unbase F₆ (by rw [hO, hO]), F₆.co.keep I _ (hid_get hI₃ fun hm => ?_), fun y o e => ?_, hlt, rfl⟩
    · rcases List.mem_append.mp hm with hm | hm
      · exact Fi₂.co.disj I hm (List.mem_cons_self ..)
      · exact hIt hm
    · have q := gx₂ y o e
      have q2 := (hid_inv q).2
      exact hid_get (F₆.co.keep y o (inb y o q)) q2
end
end Mine

open PySem PySem.W PyProof.Rows PySem.Spec PySem.Calls
set_option Elab.async false
set_option maxRecDepth 100000
set_option linter.unusedVariables false
namespace Mine

/-- the environment of a comprehension -/
noncomputable def cEnv (env : Env) (scope : Scope) (cl : List (Str × Addr)) (L : Addr) : Env :=
  { scope := relabel scope env, locals := L, globals := env.globals, cells := cellsFrom (L + 1) scope.names [] ++ cl, qual := env.qual, func := none, code := env.code, frame := env.frame, builtins := env.builtins }

theorem cellsFrom_app (cl : List (Str × Addr)) : ∀ (names : List (Str × NameKind)) (n : Nat) (acc : List (Str × Addr)), cellsFrom n names (acc ++ cl) = cellsFrom n names acc ++ cl
  | [], _, _ => rfl
  | (x, kd) :: r, n, acc => by
    unfold cellsFrom
    split
    · exact cellsFrom_app cl r (n + 1) ((x, n) :: acc)
    · exact cellsFrom_app cl r n acc
theorem lookup_app {α : Type} {x : Str} : ∀ {l r : List (Str × α)}, x ∉ l.map (·.1) → (l ++ r).lookup x = r.lookup x
  | [], _, _ => rfl
  | (y, v) :: l, r, h => by
    simp only [List.map_cons, List.mem_cons, not_or] at h
    rw [List.cons_append, List.lookup_cons, show (x == y) = false from beq_eq_false_iff_ne.mpr h.1]
    exact lookup_app h.2
theorem lookup_app_some {α : Type} {x : Str} {v : α} : ∀ {l r : List (Str × α)}, l.lookup x = some v → (l ++ r).lookup x = some v
  | (y, u) :: l, r, h => by
    rw [List.cons_append]
    rw [List.lookup_cons] at h ⊢
    split at h
    · exact h
    · exact lookup_app_some h

section
variable {C : Cx} {k : Nat} {A : Around} {env : Env} {cs : List (Str × Addr)} {ρ ρ' ρf : List (Str × D)} {own own' : List (Addr × OD)} {b b' : Heap} {f s s₀ : Shared} {μ μ₀ μ₁ W : List Addr} {d d₁ d₂ : D} {h' : Heap} {tk : Nat} {kvs : List (Int × Int)} {a : Addr} {od od' : OD} {X : SA C} {ds : List D}
  {scope : Scope} {cl : List (Str × Addr)} {elt iter target : Expr} {ifs : List Expr} {pos : Pos}

theorem wp_compEnv {M : Model} {g : Addr} {qual : Str} {Q : Env → Shared → Prop} {E : Value → Shared → Prop}
    (h : Q { scope := scope, locals := s.heap.objs.size, globals := g, cells := cellsFrom (s.heap.objs.size + 1) scope.names [] ++ cl, qual := qual, func := none, code := env.code, frame := env.frame, builtins := env.builtins }
      { s with heap := pushCells (s.heap.push { cls := .type "dict", data := .dict #[] }) scope.names }) : wpAny M A (newFunctionEnv scope g cl [] qual none .none (some env)) Q E s := by
  simp only [newFunctionEnv, Option.isSome_some, if_true]
  refine wpAny_bind (wpAny_alloc ?_)
  refine wpAny_bind (wpAny_layCells _ (fun name kind cells => by cases hkc : kind == NameKind.cell <;> simp [hkc]) _ _ _ _ ?_)
  rw [show ({ s with heap := s.heap.push { cls := .type "dict", data := .dict #[] } } : Shared).heap.objs.size = s.heap.objs.size + 1 from Heap.size_push ..]
  have e : cellsFrom (s.heap.objs.size + 1) scope.names cl = cellsFrom (s.heap.objs.size + 1) scope.names [] ++ cl := cellsFrom_app cl scope.names _ []
  rw [e]
  simp only [List.forIn_nil]
  exact wpAny_bind (wpAny_pure (wpAny_pure h))

/-- the names that a comprehension reads from around it -/
noncomputable def FrOk (env : Env) (scope : Scope) (cl : List (Str × Addr)) : List (Str × D) → Prop
  | [] => True
  | p :: r => ((env.kindOf p.1 = some .cell ∨ env.kindOf p.1 = some .free) ∧ ((relabel scope env).names.lookup p.1 = some .free ∨ (relabel scope env).names.lookup p.1 = some .cell) ∧ (p.1 == ("__classdict__" : Str)) = false ∧ cl.lookup p.1 = env.cells.lookup p.1 ∧
      ((scope.names.filter (·.2 == .cell)).map (·.1)).contains p.1 = false) ∧ FrOk env scope cl r
theorem FrOk.mem : ∀ {l : List (Str × D)}, FrOk env scope cl l → ∀ p ∈ l, (env.kindOf p.1 = some .cell ∨ env.kindOf p.1 = some .free) ∧ ((relabel scope env).names.lookup p.1 = some .free ∨ (relabel scope env).names.lookup p.1 = some .cell) ∧ (p.1 == ("__classdict__" : Str)) = false ∧ cl.lookup p.1 = env.cells.lookup p.1 ∧
      ((scope.names.filter (·.2 == .cell)).map (·.1)).contains p.1 = false
  | q :: r, h, p, hp => by
    rcases List.mem_cons.mp hp with rfl | hp
    · exact h.1
    · exact FrOk.mem h.2 p hp

noncomputable abbrev cCs (scope : Scope) (L : Addr) : List (Str × Addr) := cellsFrom (L + 1) scope.names []

theorem pushCells_size : ∀ (names : List (Str × NameKind)) (h : Heap), h.objs.size ≤ (pushCells h names).objs.size
  | [], _ => Nat.le_refl _
  | (_, kd) :: r, h => by
    unfold pushCells
    split
    · exact Nat.le_trans (by rw [Heap.size_push]; exact Nat.le_succ _) (pushCells_size r _)
    · exact pushCells_size r h

/-- the frame of a comprehension at its start: s is the state with the source's iterator I (hidden), Dd the new list -/
theorem fm_comp {o₀ : Obj} {od₀ : OD} (hfr : o₀.isFreed = false) {hp : Heap} (ho₀ : ∀ g H, H.get? hp.objs.size = some o₀ → OwnAt C g H hp.objs.size od₀) {I : Addr} {s₁ : Shared} (hE : EnvF env) (hkind : scope.kind = .function) (hcn : ((scope.names.filter (·.2 == .cell)).map (·.1)).Nodup)
    (G : Good C μ s.heap) (hb : KH s.heap s₁.heap) (G₁ : Good C μ s₁.heap) (sees : Sees C env ρ μ s₁.heap) (hρ : LookAll ρ ρf) (hf : FrOk env scope cl ρf)
    (x : Ext s₁.heap hp) (hIn : s₁.heap.get? I = none) (hI : ∃ o, hp.get? I = some o) (same : ∃ h tk, s₁ = { s with heap := h, toks := tk }) :
    Fm C (hideAll s.heap TB) s (I :: μ) (cEnv env scope cl (hp.push o₀).objs.size) (cCs scope (hp.push o₀).objs.size) ρf [(hp.objs.size, od₀)]
      { s₁ with heap := pushCells ((hp.push o₀).push { cls := .type "dict", data := .dict #[] }) scope.names, toks := tk } ∧
    Ext (hideAll s₁.heap μ) (hideAll (pushCells ((hp.push o₀).push { cls := .type "dict", data := .dict #[] }) scope.names) (Wl (cEnv env scope cl (hp.push o₀).objs.size) (cCs scope (hp.push o₀).objs.size) [(hp.objs.size, od₀)] ++ I :: μ)) := by
  generalize hH : pushCells ((hp.push o₀).push { cls := .type "dict", data := .dict #[] }) scope.names = H
  have hL : (hp.push o₀).objs.size = hp.objs.size + 1 := Heap.size_push ..
  generalize hLe : (hp.push o₀).objs.size = L at hL
  have xH : Ext hp H := fun y o e => hH ▸ pushCells_keeps _ _ y o (Heap.get?_push_of_some _ (Heap.get?_push_of_some _ e))
  have x1 : Ext s₁.heap H := x.trans xH
  have ok := cellsFrom_ok scope.names ((hp.push o₀).push { cls := .type "dict", data := .dict #[] }) (L + 1) [] ⟨fun _ _ hm => (nomatch hm), List.Pairwise.nil⟩ (by rw [Heap.size_push, hLe]; exact Nat.le_refl _)
  rw [Heap.size_push, hLe, hH] at ok
  have hns : H.Ns L fun _ => none := hH ▸ (hLe ▸ Heap.Ns.new (hp.push o₀) (.type "dict")).keeps (pushCells_keeps _ _)
  have hDd : H.get? hp.objs.size = some o₀ := hH ▸ pushCells_keeps _ _ _ _ (Heap.get?_push_of_some _ (Heap.get?_push_size _ hfr))
  have hcsn : ((cCs scope L).map (·.1)) = ((scope.names.filter (·.2 == .cell)).map (·.1)).reverse := by rw [cellsFrom_names]; simp
  have hcsnd : ((cCs scope L).map (·.1)).Nodup := by rw [hcsn]; exact List.pairwise_reverse.mpr (hcn.imp Ne.symm)
  have hW : ∀ y ∈ Wl (cEnv env scope cl L) (cCs scope L) [(hp.objs.size, od₀)], hp.objs.size ≤ y ∧ ∃ o, H.get? y = some o := by
    intro y hy
    rcases (Wl_one_mem y).mp hy with hy | rfl
    · unfold Wl at hy
      rw [List.map_nil, List.append_nil] at hy
      rcases List.mem_cons.mp hy with q | hy
      · rw [show y = L from q]
        exact ⟨by lia, let ⟨o, _, _, e, _⟩ := hns; ⟨o, e⟩⟩
      · obtain ⟨z, hz, rfl⟩ := List.mem_map.mp hy
        obtain ⟨⟨o, e, _⟩, h2⟩ := ok.empty z.1 z.2 hz
        exact ⟨by lia, o, e⟩
    · exact ⟨Nat.le_refl _, _, hDd⟩
  have fr1 : ∀ y, hp.objs.size ≤ y → s₁.heap.get? y = none := fun y hy => by
    cases q : s₁.heap.get? y with
    | none => rfl
    | some o => exact absurd (Heap.lt_size (x y o q)) (Nat.not_lt.mpr hy)
  have gx : Ext (hideAll s₁.heap μ) (hideAll H (Wl (cEnv env scope cl L) (cCs scope L) [(hp.objs.size, od₀)] ++ I :: μ)) := hid_mono fun y o n e => by
    refine ⟨x1 y o e, fun hm => ?_⟩
    rcases List.mem_append.mp hm with hm | hm
    · rw [fr1 y (hW y hm).1] at e; cases e
    · rcases List.mem_cons.mp hm with rfl | hm
      · rw [hIn] at e; cases e
      · exact n hm
  have hIlt : I < hp.objs.size := let ⟨o, e⟩ := hI; Heap.lt_size e
  have hfree : ∀ y d, ρf.lookup y = some d → _ := fun y d e => hf.mem _ (mem_of_lookup e)
  refine ⟨?_, gx⟩
  refine ⟨⟨let ⟨h, t, e⟩ := same; ⟨H, tk, by rw [e]⟩, ?_, fun P hP => List.mem_cons_of_mem _ (G.sub P hP), ?_, fun P hP => hideAll_none _ hP, ?_, fun y hy => ⟨?_, ?_⟩, fun y hy hm => ?_⟩, ⟨hkind, hE.glob, hE.bi⟩, ⟨_, hns, fun y d e hk => ?_⟩, fun y c e => ⟨?_, none, (ok.empty y c (mem_of_lookup e)).1, fun d ed hk => ?_⟩, fun y d e => ?_, fun p hp' => ?_⟩
  · refine G₁.turn gx (fun P hP => List.mem_append_right _ (List.mem_cons_of_mem _ (G.sub P hP))) (fun y hy => ?_) fun P _ o e => x1 P o e
    rcases List.mem_append.mp hy with hy | hy
    · exact (hW y hy).2
    · rcases List.mem_cons.mp hy with rfl | hy
      · obtain ⟨o, e⟩ := hI; exact ⟨o, xH _ _ e⟩
      · obtain ⟨o, e⟩ := G₁.low y hy; exact ⟨o, x1 y o e⟩
  · intro y o e
    obtain ⟨e1, e2⟩ := hid_inv e
    exact x1 y o (hb y o e2 e1)
  · show (Wl (cEnv env scope cl L) (cCs scope L) [(hp.objs.size, od₀)]).Nodup
    unfold Wl
    rw [List.map_cons, List.map_nil, List.nodup_cons]
    refine ⟨fun hm => ?_, List.nodup_append.mpr ⟨List.pairwise_map.mpr ok.apart, by simp, fun y hy z hz => ?_⟩⟩
    · rcases List.mem_append.mp hm with hm | hm
      · obtain ⟨z, hz, q⟩ := List.mem_map.mp hm
        have h2 := (ok.empty z.1 z.2 hz).2
        rw [q] at h2
        exact absurd h2 (Nat.not_succ_le_self L)
      · have q := List.mem_singleton.mp hm
        have q' : L = hp.objs.size := q
        lia
    · obtain ⟨u, hu, rfl⟩ := List.mem_map.mp hy
      have h2 := (ok.empty u.1 u.2 hu).2
      rw [List.mem_singleton.mp hz]
      exact Nat.ne_of_gt (show hp.objs.size < u.2 by lia)
  · cases q : (hideAll s.heap TB).get? y with
    | none => rfl
    | some o =>
      obtain ⟨e1, e2⟩ := hid_inv q
      have := hb y o e2 e1
      rw [fr1 y (hW y hy).1] at this; cases this
  · exact G₁.tb (fr1 y (hW y hy).1)
  · rcases List.mem_cons.mp hm with rfl | hm
    · exact absurd (hW y hy).1 (Nat.not_le.mpr hIlt)
    · obtain ⟨o, e⟩ := G₁.low y hm
      rw [fr1 y (hW y hy).1] at e; cases e
  · obtain ⟨_, h2, _⟩ := hfree y d e
    have hk' : (relabel scope env).names.lookup y = some .local := hk
    rw [hk'] at h2; rcases h2 with h2 | h2 <;> cases h2
  · exact lookup_app_some e
  · obtain ⟨_, _, _, _, h5⟩ := hfree y d ed
    have : y ∈ ((cCs scope L).map (·.1)) := List.mem_map.mpr ⟨_, mem_of_lookup e, rfl⟩
    rw [hcsn, List.mem_reverse, ← List.contains_iff_mem] at this
    rw [h5] at this; cases this
  · obtain ⟨h1, h2, h3, h4, h5⟩ := hfree y d e
    obtain ⟨v, r1, r2, r3⟩ := sees y d (weak_all hρ y d e)
    obtain ⟨c, c1, c2, c3⟩ := r3 h1
    have hny : y ∉ ((cCs scope L).map (·.1)) := fun hm => by
      rw [hcsn, List.mem_reverse, ← List.contains_iff_mem] at hm
      rw [h5] at hm; cases hm
    refine .inr (.inr ⟨h2, h3, c, v, ?_, fun hm => ?_, c2, c3.keeps x1, r1.mono gx⟩)
    · show (cellsFrom (L + 1) scope.names [] ++ cl).lookup y = some c
      rw [lookup_app hny, h4, c1]
    · obtain ⟨o, e, _⟩ := c3
      rw [fr1 c (hW c hm).1] at e; cases e
  · rw [List.mem_singleton.mp hp']
    exact ho₀ _ _ hDd
end
end Mine

open PySem PySem.W PyProof.Rows PySem.Spec PySem.Calls
set_option Elab.async false
set_option maxRecDepth 100000
set_option linter.unusedVariables false
namespace Mine

section
variable {C : Cx} {k : Nat} {A : Around} {env : Env} {cs : List (Str × Addr)} {ρ ρ' ρf : List (Str × D)} {own own' : List (Addr × OD)} {b b' : Heap} {f s s₀ : Shared} {μ μ₀ μ₁ W : List Addr} {d d₁ d₂ : D} {h' : Heap} {tk : Nat} {kvs : List (Int × Int)} {a : Addr} {od od' : OD} {X : SA C} {ds : List D}
  {scope : Scope} {cl : List (Str × Addr)} {elt iter target : Expr} {ifs : List Expr} {pos : Pos} {R : Result → Shared → Prop}

theorem codeAny_compLoop_go {prog : Program} {w : World} {it acc : Value} (I : Nat → Shared → Prop)
    (turn : ∀ n s, I n s → wpAny (model prog w) A (pyNext it) (fun r s₁ => match r with
      | none => R (.ok .next) s₁
      | some v => wpAny (model prog w) A (letOwnedTupleGo target it v) (fun _ s₁' => wpAny (model prog w) A (assign target env v) (fun _ s₂ =>
          wpAny (model prog w) A (forIn ifs true fun c r => if r = true then do let ok ← isTrue c env (eval c env); pure (ForInStep.yield ok) else pure (ForInStep.yield r)) (fun ok s₃ =>
            if ok = true then wpAny (model prog w) A (eval elt env) (fun x s₄ =>
              wpAny (model prog w) A (call (.builtin "list.append") [acc, x]) (fun _ s₅ => ∃ m, m < n ∧ I m s₅) (notedBy (model prog w) A env fun e s' => R (.error e) s') s₄) (notedBy (model prog w) A env fun e s' => R (.error e) s') s₃
            else ∃ m, m < n ∧ I m s₃) (notedBy (model prog w) A env fun e s' => R (.error e) s') s₂) (notedBy (model prog w) A env fun e s' => R (.error e) s') s₁') (notedBy (model prog w) A env fun e s' => R (.error e) s') s₁) (notedBy (model prog w) A env fun e s' => R (.error e) s') s)
    (n : Nat) (h : I n s) : codeAny (model prog w) A (.compLoop (.ListComp elt [⟨target, iter, ifs, 0⟩] scope pos) 0 it acc env) R s := by
  refine codeAny_loop rfl I (fun n s hI => ?_) n h
  show wpAny _ A ((compTurn (.ListComp elt [⟨target, iter, ifs, 0⟩] scope pos) 0 it acc env).onRaise (fun x => do noteFrame x env; theTreesLotGoes x)) _ _ s
  refine wpAny_noted ?_
  rw [compTurn_list]
  refine wpAny_bind (wpAny_standAt (wpAny_bind (wpAny_mono (turn n s hI) (fun r s₁ h₁ => ?_) fun _ _ h' => h')))
  cases r with
  | none => exact wpAny_pure h₁
  | some v =>
    refine wpAny_bind (wpAny_mono h₁ (fun _ s₁' h₁' => ?_) fun _ _ h' => h')
    refine wpAny_bind (wpAny_mono h₁' (fun _ s₂ h₂ => wpAny_bind (wpAny_mono h₂ (fun ok s₃ h₃ => ?_) fun _ _ h' => h')) fun _ _ h' => h')
    cases ok with
    | false => exact wpAny_pure ⟨rfl, h₃⟩
    | true => exact wpAny_bind (wpAny_bind (wpAny_mono h₃ (fun x s₄ h₄ => wpAny_bind (wpAny_mono h₄ (fun _ s₅ h₅ => wpAny_pure (wpAny_pure ⟨rfl, h₅⟩)) fun _ _ h' => h')) fun _ _ h' => h'))

/-- the tests of a comprehension -/
noncomputable def Tst (C : Cx) (k : Nat) (env : Env) (ρ : List (Str × D)) (X : SA C) (ifs : List Expr) (c : Bool) : Prop :=
  Ok C k (Cn C env ρ X) (forIn ifs true fun c r => if r = true then do let ok ← isTrue c env (eval c env); pure (ForInStep.yield ok) else pure (ForInStep.yield r)) (fun r _ _ => r = c)
theorem tst_nil : Tst C k env ρ X [] true := by
  intro μ A s Q E G p rm ret
  rw [List.forIn_nil]
  exact wpAny_pure (ret _ s.heap s.toks KH.rfl G rfl)
theorem tst_one {e : Expr} {c : Bool} (h : EvB C k env ρ X e c) : Tst C k env ρ X [e] c := by
  intro μ A s Q E G p rm ret
  rw [List.forIn_cons]
  simp only [if_true]
  refine wpAny_bind (wpAny_bind (h μ A s _ E G p rm fun v h' tk kh G' r => ?_))
  cases r
  refine wpAny_pure ?_
  simp only [List.forIn_nil]
  exact wpAny_pure (ret _ h' tk kh G' rfl)

/-- the target of a comprehension -/
noncomputable def Tgt (C : Cx) (env : Env) (cs : List (Str × Addr)) (target : Expr) (nm : D → List (Str × D)) (ds : List D) : Prop :=
  ∀ d' ∈ ds, ∀ (b : Heap) (f : Shared) (μ₀ : List Addr) (ρ : List (Str × D)) (own : List (Addr × OD)) (s : Shared) (A : Around) (Q : Unit → Shared → Prop) (E : Value → Shared → Prop) (v : Value),
    Fm C b f μ₀ env cs ρ own s → Rep C (hideAll s.heap (Wl env cs own ++ μ₀)) v d' → A.handled = none → (∀ s', Fm C b f μ₀ env cs (nm d' ++ ρ) own s' → Q () s') → wpAny (model C.prog C.w) A (assign target env v) Q E s
theorem tgt_name {x : Str} {px : Pos} (hx : Kd env cs x) : Tgt C env cs (.Name x px) (fun d => [(x, d)]) ds :=
  fun d' _ b f μ₀ ρ own s A Q E v F r _ ret => wpAny_assign_Name (F.store hx r fun h' tk F' => ret _ F')
noncomputable def nm2 (x y : Str) : D → List (Str × D)
  | .tup [a, b] => [(y, b), (x, a)]
  | _ => []

theorem Fm.pair {x y : Str} {px py pt : Pos} {x1 : Nat} {a c : D} {v : Value} {Q : Unit → Shared → Prop} {E : Value → Shared → Prop} (hx : Kd env cs x) (hy : Kd env cs y) (F : Fm C b f μ₀ env cs ρ own s) (r : Rep C (hideAll s.heap (Wl env cs own ++ μ₀)) v (.tup [a, c])) (hh : A.handled = none)
    (ret : ∀ s', Fm C b f μ₀ env cs ((y, c) :: (x, a) :: ρ) own s' → Q () s') : wpAny (model C.prog C.w) A (assign (.Tuple [.Name x px, .Name y py] x1 pt) env v) Q E s := by
  cases r with
  | tup hi hr =>
  rename_i t vs
  obtain ⟨vs⟩ := vs
  rcases hr with ⟨h1, ⟨h2, ⟨⟩⟩⟩
  rename_i v1 v2
  refine wpAny_assign_Tuple hh (hi.at fun o e => of_hideAll _ e) rfl rfl fun h₁ hx₁ => ?_
  have ext : Ext s.heap h₁ := fun y o e => hx₁ y o (Nat.ne_of_lt (Heap.lt_size e)) e
  have F₁ := F.pure (tk := s.toks) ext.kh (F.co.good.keep ext)
  have gx := KH.hid F.co.good.sub ext.kh
  show wpAny _ _ (do holding [v2] (assign (.Name x px) env v1); do holding [] (assign (.Name y py) env v2); Pure.pure ()) _ _ _
  refine wpAny_bind (wpAny_holding (wpAny_assign_Name (F₁.rebase.store (d := a) hx (h1.mono gx) fun h₄ tk₄ F₄ => ?_)))
  have up : Ext (hideAll h₁ (Wl env cs own ++ μ₀)) (hideAll h₄ (Wl env cs own ++ μ₀)) := fun y o e => by
    obtain ⟨e1, e2⟩ := hid_inv e
    refine hid_get (F₄.co.keep y o (hid_get e1 fun hm => ?_)) e2
    rcases List.mem_append.mp hm with hm | hm
    · exact e2 (List.mem_append_left _ hm)
    · exact e2 (List.mem_append_right _ (F.co.tb y hm))
  refine wpAny_bind (wpAny_holding (wpAny_assign_Name (F₄.store (d := c) hy ((h2.mono gx).mono up) fun h₅ tk₅ F₅ => wpAny_pure ?_)))
  exact ret _ (F₁.unbase F₅ rfl)
theorem tgt_pair {x y : Str} {px py pt : Pos} {x1 : Nat} (hx : Kd env cs x) (hy : Kd env cs y) (hd : ∀ d ∈ ds, ∃ a c, d = .tup [a, c]) : Tgt C env cs (.Tuple [.Name x px, .Name y py] x1 pt) (nm2 x y) ds := by
  intro d' hd' b f μ₀ ρ own s A Q E v F r hh ret
  obtain ⟨a, c, rfl⟩ := hd d' hd'
  exact F.pair hx hy r hh fun s' F' => ret s' F'

theorem comp_loop {I Dd : Addr} {fp : List Addr} {P : Nat → Value → Prop} {St : Nat → Heap → Prop} {g₀ : Heap} (F : Fm C b f (I :: μ) env cs ρf [(Dd, .list [])] s) (rm : Room k A) (W : Walks C.prog C.w A I fp [I] ds.length P St)
    (hg : Ext g₀ (hideAll s.heap (Wl env cs [(Dd, .list [])] ++ I :: μ))) (hfp : ∀ b ∈ fp, b = I ∨ ∃ o, g₀.get? b = some o) (hex : ∀ i h, St i h → ∃ o, h.get? I = some o ∧ ∀ v, o.data ≠ .cell v) (st : St 0 s.heap)
    (hP : ∀ i v', P i v' → ∃ d', ds[i]? = some d' ∧ Rep C g₀ v' d') (htb : ∀ P ∈ TB, P ∈ μ) (hIt : I ∉ TB) (hIμ : I ∉ μ) (hbI : b.get? I = none) (hz : ds.length ≤ 2 ^ 20)
    (nm : D → List (Str × D)) (htg : Tgt C env cs target nm ds)
    (hgo : ∀ i (s' : Shared) v' (d' : D) (A' : Around) (Q' : Unit → Shared → Prop) (E' : Value → Shared → Prop), St i s'.heap → Rep C g₀ v' d' → d' ∈ ds → Q' () s' → wpAny (model C.prog C.w) A' (letOwnedTupleGo target (.ref I) v') Q' E' s')
    (q : D → Bool) (g : D → D) (htest : ∀ d' ∈ ds, ∀ X, Tst C k env (nm d' ++ ρf) X ifs (q d')) (helt : ∀ d' ∈ ds, q d' = true → ∀ X, Ev C k env (nm d' ++ ρf) X elt (g d'))
    (hnm : ∀ d' ∈ ds, ∀ y d, ρf.lookup y = some d → (nm d' ++ ρf).lookup y = some d)
    (done : ∀ s', Fm C b f μ env cs ρf [(Dd, .list ((ds.filter q).map g))] s' → R (.ok .next) s') :
    codeAny (model C.prog C.w) A (.compLoop (.ListComp elt [⟨target, iter, ifs, 0⟩] scope pos) 0 (.ref I) (.ref Dd) env) R s := by
  have hnc : ∀ i (hh : Heap), St i hh → ∀ v, ¬ hh.IsCell I v := fun i hh st v ⟨o, c1, c2⟩ => by
    obtain ⟨o', e1, e2⟩ := hex i hh st
    rw [c1] at e1; cases e1; exact e2 v c2
  have hex' : ∀ i (hh : Heap), St i hh → ∃ o, hh.get? I = some o := fun i hh st => let ⟨o, e, _⟩ := hex i hh st; ⟨o, e⟩
  have hWi : ∀ l, Wl env cs [(Dd, .list l)] = Wl env cs [(Dd, .list [])] := fun l => rfl
  refine codeAny_compLoop_go (fun kk s' => ∃ i, Fm C b f (I :: μ) env cs ρf [(Dd, .list (((ds.take i).filter q).map g))] s' ∧ St i s'.heap ∧ Ext g₀ (hideAll s'.heap (Wl env cs [(Dd, .list [])] ++ I :: μ)) ∧ i ≤ ds.length ∧ kk = ds.length + 1 - i) ?_ (ds.length + 1) ⟨0, F, st, hg, Nat.zero_le _, rfl⟩
  rintro kk s' ⟨i, Fi, sti, gxi, hile, rfl⟩
  by_cases hlt : i < ds.length
  · refine W.item i _ _ _ hlt sti fun v' h₂ tk₂ hPv st₂ hk₂ => ?_
    obtain ⟨d', hd', rv⟩ := hP i v' hPv
    have hmem : d' ∈ ds := List.mem_of_getElem? hd'
    have Fi₂ := Fi.hideTurn (h' := h₂) (tk := tk₂) (fun y o n e => hk₂ y o (fun hm => n (List.mem_singleton.mp hm)) e) hbI htb hIt (hex' _ _ st₂) (hnc _ _ sti)
    have gx₂ : Ext g₀ (hideAll h₂ (Wl env cs [(Dd, .list [])] ++ I :: μ)) := gxi.trans (hid_mono fun y o n e => ⟨hk₂ y o (fun hm => n (List.mem_append_right _ (List.mem_singleton.mp hm ▸ List.mem_cons_self ..))) e, n⟩)
    have inb : ∀ y o, (hideAll h₂ (Wl env cs [(Dd, .list [])] ++ I :: μ)).get? y = some o → (hideAll h₂ (Wl env cs [(Dd, .list [])] ++ TB)).get? y = some o := fun y o e => by
      obtain ⟨e1, e2⟩ := hid_inv e
      refine hid_get e1 fun hm => e2 ?_
      rcases List.mem_append.mp hm with hm | hm
      · exact List.mem_append_left _ hm
      · exact List.mem_append_right _ (List.mem_cons_of_mem _ (htb y hm))
    have htk : ds.take (i + 1) = ds.take i ++ [d'] := by rw [List.take_add_one, hd']; rfl
    have fin : ∀ (l : List D) (s₅ : Shared), ((ds.take (i + 1)).filter q).map g = l → Fm C (hideAll h₂ (Wl env cs [(Dd, .list [])] ++ TB)) f (I :: μ) env cs (nm d' ++ ρf) [(Dd, .list l)] s₅ →
        ∃ m, m < ds.length + 1 - i ∧ ∃ i, Fm C b f (I :: μ) env cs ρf [(Dd, .list (((ds.take i).filter q).map g))] s₅ ∧ St i s₅.heap ∧ Ext g₀ (hideAll s₅.heap (Wl env cs [(Dd, .list [])] ++ I :: μ)) ∧ i ≤ ds.length ∧ m = ds.length + 1 - i := by
      intro l s₅ hl F₅
      refine ⟨ds.length + 1 - (i + 1), by lia, i + 1, ?_, ?_, ?_, hlt, rfl⟩
      · rw [hl]; exact (Fi₂.unbase F₅ rfl).weak (hnm d' hmem)
      · refine W.frame _ _ _ st₂ fun y hy o e => F₅.co.keep y o ?_
        rcases hfp y hy with rfl | ⟨o', e'⟩
        · refine hid_get e fun hm => ?_
          rcases List.mem_append.mp hm with hm | hm
          · exact Fi₂.co.disj y hm (List.mem_cons_self ..)
          · exact hIt hm
        · have q1 := gx₂ y o' e'
          have q2 := (hid_inv q1).1
          have q3 : h₂.get? y = some o := e
          rw [q2] at q3
          cases q3
          exact inb y o q1
      · intro y o e
        have q1 := gx₂ y o e
        have q2 := (hid_inv q1).2
        exact hid_get (F₅.co.keep y o (inb y o q1)) q2
    refine hgo (i + 1) { s' with heap := h₂, toks := tk₂ } v' d' A _ _ st₂ rv hmem ?_
    refine htg d' hmem _ _ _ _ _ _ A _ _ v' Fi₂.rebase (rv.mono gx₂) rm.handled fun s₃ F₃ => ?_
    refine htest d' hmem (OwnX C _) _ A s₃ _ _ F₃.co.good F₃.sees rm fun ok h₄ tk₄ k₄ G₄ r₄ => ?_
    cases r₄
    have F₄ := F₃.pure (tk := tk₄) k₄ G₄
    cases hq : q d' with
    | false =>
      simp only [Bool.false_eq_true, if_false]
      exact fin _ _ (by rw [htk, List.filter_append]; simp [hq]) F₄
    | true =>
      simp only [if_true]
      refine F₄.ev rm (helt d' hmem hq (OwnX C _)) fun y s₅ F₅ _ _ r₅ => ?_
      obtain ⟨vs₂, hp₂, hr₂⟩ := F₅.ownd _ (List.mem_singleton.mpr rfl)
      have hlen := repL_length hr₂
      refine wpAny_list_append_plain hp₂ (fun h₆ hp₆ hs₆ => ?_) (by
        have e1 : vs₂.size = (((ds.take i).filter q).map g).length := by simpa using hlen
        have e2 : ((ds.take i).filter q).length ≤ (ds.take i).length := List.length_filter_le _ _
        have e3 : (ds.take i).length ≤ ds.length := by rw [List.length_take]; exact Nat.min_le_right _ _
        rw [List.length_map] at e1
        rw [e1]; exact Nat.le_trans (Nat.le_trans e2 (Nat.le_trans e3 hz)) (by decide))
      refine fin _ _ ?_ (F₅.ownTurn (tk := s₅.toks) hs₆ fun gx => ⟨_, hp₆, by rw [Array.toList_push]; exact (hr₂.mono gx).append (.cons (r₅.mono gx) .nil)⟩)
      rw [htk, List.filter_append]; simp [hq]
  · have hin : i = ds.length := by lia
    subst hin
    refine W.done _ _ _ sti fun h₂ tk₂ hk₂ => ?_
    rw [List.take_length] at Fi
    exact done _ (Fi.hideEnd (h' := h₂) (tk := tk₂) (fun y o n e => hk₂ y o (fun hm => n (List.mem_singleton.mp hm)) e) hbI htb hIt hIμ (hnc _ _ sti))
end
end Mine

open PySem PySem.W PyProof.Rows PySem.Spec PySem.Calls
set_option Elab.async false
set_option maxRecDepth 100000
set_option linter.unusedVariables false
namespace Mine

section
variable {C : Cx} {k : Nat} {A : Around} {env : Env} {cs : List (Str × Addr)} {ρ ρ' ρf : List (Str × D)} {own own' : List (Addr × OD)} {b b' : Heap} {f s s₀ : Shared} {μ μ₀ μ₁ W : List Addr} {d d₁ d₂ : D} {h' : Heap} {tk : Nat} {kvs : List (Int × Int)} {a : Addr} {od od' : OD} {X : SA C} {ds : List D}
  {scope : Scope} {cl : List (Str × Addr)} {elt iter target : Expr} {ifs : List Expr} {pos : Pos} {R : Result → Shared → Prop}

theorem Fm.compEnd {Dd : Addr} {env' : Env} (F : Fm C (hideAll s₀.heap TB) s₀ μ env' cs ρ [(Dd, .list ds)] s) (hs : Heap.SameBut env'.locals s.heap h') :
    KH s₀.heap h' ∧ Good C μ h' ∧ Rep C (hideAll h' μ) (.ref Dd) (.list ds) := by
  have hL : env'.locals ∈ Wl env' cs [(Dd, OD.list ds)] := mem_Wl_L
  have hD : Dd ∈ Wl env' cs [(Dd, OD.list ds)] := mem_Wl_o (p := (Dd, OD.list ds)) (List.mem_singleton.mpr rfl)
  have hDL : Dd ≠ env'.locals := fun q => by
    have hnd := F.co.nodup
    unfold Wl at hnd
    exact (List.nodup_cons.mp hnd).1 (List.mem_append_right _ (by rw [← q]; simp))
  have gx : Ext (hideAll s.heap (Wl env' cs [(Dd, .list ds)] ++ μ)) (hideAll h' μ) := hid_mono fun y o n e => ⟨(hs.2 y fun q => n (List.mem_append_left _ (q ▸ hL))).trans e, fun hm => n (List.mem_append_right _ hm)⟩
  refine ⟨fun y o n e => ?_, F.co.good.turn gx F.co.tb (fun y hy => ?_) (fun P hP o e => ?_), ?_⟩
  · have q := hid_get e n
    exact (hs.2 y fun q' => by rw [q', (F.co.priv _ hL).1] at q; cases q).trans (F.co.keep y o q)
  · obtain ⟨o, e⟩ := F.co.good.low y (List.mem_append_right _ hy)
    exact ⟨o, (hs.2 y fun q => F.co.disj _ hL (q ▸ hy)).trans e⟩
  · exact (hs.2 P fun q => (F.co.priv _ hL).2 (q ▸ hP)).trans e
  · obtain ⟨vs, ⟨n, hp⟩, hr⟩ := F.ownd _ (List.mem_singleton.mpr rfl)
    exact .list ⟨n, hid_get ((hs.2 Dd hDL).trans hp) (F.co.disj _ hD)⟩ (hr.mono gx)

/-- what a comprehension's parts say -/
structure Cmp (C : Cx) (k : Nat) (env : Env) (scope : Scope) (cl : List (Str × Addr)) (ρf : List (Str × D)) (target elt : Expr) (ifs : List Expr) (ds : List D) (q : D → Bool) (g : D → D) : Prop where
  free : FrOk env scope cl ρf
  clos : closureFor scope env = pure cl
  kind : scope.kind = .function
  names : ∀ x ∈ scope.names, x.2 = .local → scope.names.lookup x.1 = some .local
  cells : ((scope.names.filter (·.2 == .cell)).map (·.1)).Nodup
  size : ds.length ≤ 2 ^ 20
  body : ∃ nm : D → List (Str × D), (∀ L, Tgt C (cEnv env scope cl L) (cCs scope L) target nm ds) ∧ (∀ d' ∈ ds, ∀ L X, Tst C k (cEnv env scope cl L) (nm d' ++ ρf) X ifs (q d')) ∧
    (∀ d' ∈ ds, q d' = true → ∀ L X, Ev C k (cEnv env scope cl L) (nm d' ++ ρf) X elt (g d')) ∧ (∀ d' ∈ ds, ∀ y d, ρf.lookup y = some d → (nm d' ++ ρf).lookup y = some d)

/-- the source's iterator lets a tuple go without a word -/
noncomputable def Goes (C : Cx) (d : D) (ds : List D) (target : Expr) : Prop := ∀ (μ : List Addr) (A : Around) (s : Shared) (Q : Value → Shared → Prop) (E : Value → Shared → Prop) (v : Value), Good C μ s.heap → Rep C (hideAll s.heap μ) v d → A.handled = none →
  (∀ (I : Addr) (h' : Heap) (tk : Nat) (fp : List Addr) (P : Nat → Value → Prop) (St : Nat → Heap → Prop), Ext s.heap h' → s.heap.get? I = none → Walks C.prog C.w A I fp [I] ds.length P St → (∀ b ∈ fp, b = I ∨ ∃ o, (hideAll s.heap μ).get? b = some o) →
    (∀ i h, St i h → ∃ o, h.get? I = some o ∧ ∀ v, o.data ≠ .cell v) → St 0 h' → (∀ i v', P i v' → ∃ d', ds[i]? = some d' ∧ Rep C (hideAll s.heap μ) v' d') →
    (∀ i (s' : Shared) v' (d' : D) (A' : Around) (Q' : Unit → Shared → Prop) (E' : Value → Shared → Prop), St i s'.heap → Rep C (hideAll s.heap μ) v' d' → d' ∈ ds → Q' () s' → wpAny (model C.prog C.w) A' (letOwnedTupleGo target (.ref I) v') Q' E' s') →
    Q (.ref I) { s with heap := h', toks := tk }) →
  wpAny (model C.prog C.w) A (pyIter v) Q E s
theorem goes_name {x : Str} {px : Pos} (h : Iters C d ds) : Goes C d ds (.Name x px) := fun μ A s Q E v G r hh ret =>
  h μ A s Q E v G r hh fun I h' tk fp P St e1 e2 e3 e4 e5 e6 e7 => ret I h' tk fp P St e1 e2 e3 e4 e5 e6 e7 fun i s' v' d' A' Q' E' _ _ _ q => wpAny_pure q
theorem goes_list {es : List Expr} {n : Nat} {pt : Pos} (hd : ∀ d ∈ ds, ∃ a c, d = .tup [a, c]) : Goes C (.list ds) ds (.Tuple es n pt) := by
  rintro μ A s Q E v G ⟨⟩ hh cont
  rename_i a vs hl hr
  have hl' := hl.isList.at fun o e => hid_ext μ s.heap _ o e
  obtain ⟨na, ha⟩ := hl
  have hne : a ≠ s.heap.objs.size := Nat.ne_of_lt (Heap.lt_size (of_hideAll _ ha))
  have hlen : vs.size = ds.length := by have := repL_length hr; simpa using this
  refine wpAny_pyIter_list hl' ?_
  have W := Walks.list (prog := C.prog) (w := C.w) hh s.heap.objs.size a hne vs
  rw [hlen] at W
  refine cont _ _ s.toks _ _ _ (push_ext _ _) (fresh_size _) W ?_ ?_ ⟨⟨_, Heap.get?_push_size _ rfl, rfl, rfl⟩, hl'.at fun o e => Heap.get?_push_of_some _ e⟩ ?_ ?_
  · intro b hb
    rcases List.mem_cons.mp hb with rfl | hb
    · exact .inl rfl
    · rw [List.mem_singleton.mp hb]; exact .inr ⟨_, ha⟩
  · rintro i h ⟨⟨o, e, _, q⟩, _⟩; exact ⟨o, e, fun v z => by rw [q] at z; cases z⟩
  · intro i v' hP
    have hi : i < ds.length := by rw [← hlen]; exact (Array.getElem?_eq_some_iff.mp hP).1
    obtain ⟨v'', e1, e2⟩ := RepL.get hr (List.getElem?_eq_getElem hi)
    rw [Array.getElem?_toList, hP] at e1
    cases e1
    exact ⟨_, List.getElem?_eq_getElem hi, e2⟩
  · intro i s' v' d' A' Q' E' st r hm q
    obtain ⟨x, y, rfl⟩ := hd d' hm
    cases r
    exact wpAny_letOwnedTupleGo_listiter st.1 q

theorem comp_run {E : Value → Shared → Prop} {RR : Value → Addr → Result → Shared → Prop} {g : D → D} {q : D → Bool} (hE : EnvF env) (G : Good C μ s.heap) (sees : Sees C env ρ μ s.heap) (rm : Room k A) (he : ∀ (Q : Value → Shared → Prop) (E : Value → Shared → Prop), (∀ v h' tk, KH s.heap h' → Good C μ h' → Dt C d v μ h' → Q v { s with heap := h', toks := tk }) → wpAny (model C.prog C.w) A (eval iter env) Q E s)
    (hg : Goes C d ds target) (hρ : LookAll ρ ρf) (cm : Cmp C k env scope cl ρf target elt ifs ds q g)
    (done : ∀ Dd L s', Fm C (hideAll s.heap TB) s μ (cEnv env scope cl L) (cCs scope L) ρf [(Dd, .list ((ds.filter q).map g))] s' → RR (.ref Dd) L (.ok .next) s') :
    wpAny (model C.prog C.w) A (eval iter env) (fun x s₁ => wpAny (model C.prog C.w) A (pyIter x) (fun it s₂ => wpAny (model C.prog C.w) A (newList []) (fun acc s₃ =>
      wpAny (model C.prog C.w) A (newFunctionEnv scope env.globals cl [] env.qual none .none (some env)) (fun cenv s₄ =>
        codeAny (model C.prog C.w) A (.compStart (.ListComp elt [⟨target, iter, ifs, 0⟩] scope pos) 0 it acc { cenv with scope := relabel scope env }) (RR acc cenv.locals) s₄) E s₃) E s₂) E s₁) E s := by
  refine he _ _ fun v h₁ tk₁ k₁ G₁ r₁ => ?_
  refine hg μ A { s with heap := h₁, toks := tk₁ } _ E v G₁ r₁ rm.handled fun I h₂ tk₂ fp P St ext hnew W hfp hex st hP hgo => ?_
  refine wpAny_newObj_type (wp_compEnv ?_)
  obtain ⟨nm, tg, tst, ev, hnm⟩ := cm.body
  have sees₁ : Sees C env ρ μ h₁ := Sees.stable _ _ _ G k₁ G₁ sees
  obtain ⟨F, gx⟩ := fm_comp (o₀ := { cls := .type "list", data := .seq #[] }) (od₀ := .list []) rfl (fun g H e => ⟨#[], ⟨0, e⟩, .nil⟩) (s := s) (s₁ := { s with heap := h₁, toks := tk₁ }) (tk := tk₂) hE cm.kind cm.cells G k₁ G₁ sees₁ hρ cm.free ext hnew (let ⟨o, e, _⟩ := hex 0 _ st; ⟨o, e⟩) ⟨_, _, rfl⟩
  have hIt : I ∉ TB := G₁.tb hnew
  have hIμ : I ∉ μ := fun m => by obtain ⟨o, e⟩ := G₁.low I m; rw [hnew] at e; cases e
  have hbI : (hideAll s.heap TB).get? I = none := by
    cases q : (hideAll s.heap TB).get? I with
    | none => rfl
    | some o =>
      obtain ⟨e1, e2⟩ := hid_inv q
      have := k₁ I o e2 e1
      rw [hnew] at this; cases this
  have xH : Ext h₂ (pushCells ((h₂.push { cls := .type "list", data := .seq #[] }).push { cls := .type "dict", data := .dict #[] }) scope.names) := fun y o e => pushCells_keeps _ _ y o (Heap.get?_push_of_some _ (Heap.get?_push_of_some _ e))
  have st' := W.frame _ _ (pushCells ((h₂.push { cls := .type "list", data := .seq #[] }).push { cls := .type "dict", data := .dict #[] }) scope.names) st fun y _ o e => xH y o e
  have loop : codeAny (model C.prog C.w) A (.compLoop (.ListComp elt [⟨target, iter, ifs, 0⟩] scope pos) 0 (.ref I) (.ref h₂.objs.size) (cEnv env scope cl (h₂.push { cls := .type "list", data := .seq #[] }).objs.size)) (RR (.ref h₂.objs.size) (h₂.push { cls := .type "list", data := .seq #[] }).objs.size)
      { s with heap := pushCells ((h₂.push { cls := .type "list", data := .seq #[] }).push { cls := .type "dict", data := .dict #[] }) scope.names, toks := tk₂ } :=
    comp_loop F rm W gx hfp hex st' hP G.sub hIt hIμ hbI cm.size nm (tg _) hgo q g (fun d' hd' X => tst d' hd' _ X) (fun d' hd' hq X => ev d' hd' hq _ X) hnm fun s' F' => done _ _ s' F'
  exact codeAny_compStart_list loop (W.self 0 _ _ _ st' loop)

theorem ev_listcomp {g : D → D} {q : D → Bool} (ρf : List (Str × D)) (cl : List (Str × Addr)) (hE : EnvF env) (he : Ev C k env ρ X iter d) (hg : Goes C d ds target) (hρ : LookAll ρ ρf) (cm : Cmp C k env scope cl ρf target elt ifs ds q g)
    (hs : ∀ x, foldedSetIterable iter env x = pure x := by intro _; rfl) : Ev C k env ρ X (.ListComp elt [⟨target, iter, ifs, 0⟩] scope pos) (.list ((ds.filter q).map g)) := by
  intro μ A s Q E G p rm ret
  rw [eval_ListComp]
  refine wpAny_comprehension_free (use := none) rfl hs cm.clos cm.kind cm.names (comp_run hE G p.1 rm (fun Q' E' r => he μ A s Q' E' G p rm r) hg hρ cm fun Dd L s' F' => ?_)
  obtain ⟨m, hn, _⟩ := F'.ns
  refine ⟨m, hn, fun h'' hs'' => ?_⟩
  obtain ⟨r1, r2, r3⟩ := F'.compEnd hs''
  obtain ⟨hh, tk, e⟩ := F'.co.same
  rw [e]
  exact ret _ _ tk r1 r2 r3

theorem x_assignComp {g : D → D} {q : D → Bool} {x : Str} {p spos : Pos} {Q : Flow → Shared → Prop} {E : Value → Shared → Prop} {rest : List Stmt} (ρf : List (Str × D)) (cl : List (Str × Addr)) (F : Fm C b f μ₀ env cs ρ own s) (rm : Room k A)
    (he : Ev C k env ρ (OwnX C own) iter d) (hg : Goes C d ds target) (hρ : LookAll ρ ρf) (cm : Cmp C k env scope cl ρf target elt ifs ds q g) (hx : Kd env cs x)
    (cont : ∀ s', Fm C b f μ₀ env cs ((x, .list ((ds.filter q).map g)) :: ρ) own s' → wpAny (model C.prog C.w) A (execs rest env) Q E s')
    (hsw : swapsWith (.ListComp elt [⟨target, iter, ifs, 0⟩] scope pos) (some (.Name x p)) spos.line env = pure true := by rfl)
    (hs : ∀ x, foldedSetIterable iter env x = pure x := by intro _; rfl) : wpAny (model C.prog C.w) A (execs (.Assign [.Name x p] (.ListComp elt [⟨target, iter, ifs, 0⟩] scope pos) spos :: rest) env) Q E s := by
  refine x_cons ?_
  rw [exec_Assign_Name_used _ _ _ _ hsw]
  refine wpAny_bind (wpAny_standAt (wpAny_bind ?_))
  show wpAny _ A (do let _ ← comprehension (.ListComp elt [⟨target, iter, ifs, 0⟩] scope pos) scope env _ (newList []) false (eval iter env) (some (assign (.Name x p) env))) _ _ s
  refine wpAny_bind (wpAny_mono (wpAny_comprehension_free (use := some (assign (.Name x p) env)) (Q := fun _ s' => Nx C A env rest Q E .next s') rfl hs cm.clos cm.kind cm.names
    (comp_run F.envF F.co.good F.sees.1 rm (fun Q' E' r => he _ A s Q' E' F.co.good F.sees rm r) hg hρ cm fun Dd L s' F' => ?_)) (fun _ s' hq => wpAny_pure (wpAny_pure hq)) fun _ _ e => e)
  show wpAny _ A (assign (.Name x p) env (.ref Dd)) _ E s'
  have hL : L ∈ Wl (cEnv env scope cl L) (cCs scope L) [(Dd, OD.list ((ds.filter q).map g))] := mem_Wl_L (env := cEnv env scope cl L)
  have hD : Dd ∈ Wl (cEnv env scope cl L) (cCs scope L) [(Dd, OD.list ((ds.filter q).map g))] := mem_Wl_o (p := (Dd, OD.list ((ds.filter q).map g))) (List.mem_singleton.mpr rfl)
  have hDL : Dd ≠ L := fun q' => by
    have hnd := F'.co.nodup
    unfold Wl at hnd
    exact (List.nodup_cons.mp hnd).1 (List.mem_append_right _ (by rw [show (cEnv env scope cl L).locals = L from rfl, ← q']; simp))
  have hLt : L ∉ TB := (F'.co.priv L hL).2
  have hLn : s.heap.get? L = none := by
    cases q' : s.heap.get? L with
    | none => rfl
    | some o => have := (F'.co.priv L hL).1; rw [hid_get q' hLt] at this; cases this
  have kh : KH s.heap s'.heap := fun y o n e => F'.co.keep y o (hid_get e n)
  have hLW : L ∉ Wl env cs own := fun hm => F'.co.disj L hL (List.mem_append_left _ hm)
  have hLμ : L ∉ μ₀ := fun hm => F'.co.disj L hL (List.mem_append_right _ hm)
  have gx : Ext (hideAll s.heap (Wl env cs own ++ μ₀)) (hideAll s'.heap (Wl env cs own ++ L :: μ₀)) := hid_mono fun y o n e => ⟨kh y o (fun hm => n (List.mem_append_right _ (F.co.tb y hm))) e, fun hm => by
    rcases List.mem_append.mp hm with hm | hm
    · exact n (List.mem_append_left _ hm)
    · rcases List.mem_cons.mp hm with rfl | hm
      · rw [hLn] at e; cases e
      · exact n (List.mem_append_right _ hm)⟩
  have hsub : ∀ y ∈ Wl env cs own ++ L :: μ₀, y ∈ Wl (cEnv env scope cl L) (cCs scope L) [(Dd, OD.list ((ds.filter q).map g))] ++ (Wl env cs own ++ μ₀) := fun y hy => by
    rcases List.mem_append.mp hy with hy | hy
    · exact List.mem_append_right _ (List.mem_append_left _ hy)
    · rcases List.mem_cons.mp hy with rfl | hy
      · exact List.mem_append_left _ hL
      · exact List.mem_append_right _ (List.mem_append_right _ hy)
  obtain ⟨hh, tk, e⟩ := F'.co.same
  have F₁ : Fm C b f (L :: μ₀) env cs ρ own s' := by
    rw [e] at kh gx F' ⊢
    refine F.carry ⟨let ⟨h, t, e⟩ := F.co.same; ⟨hh, tk, by rw [e]⟩, F'.co.good.less hsub (fun P hP => List.mem_append_right _ (List.mem_cons_of_mem _ (F.co.tb P hP))), fun P hP => List.mem_cons_of_mem _ (F.co.tb P hP), fun y o e => kh y o (fun m => by rw [F.co.btb y m] at e; cases e) (F.co.keep y o e), F.co.btb, F.co.nodup, F.co.priv, fun y hy hm => ?_⟩ gx (fun y hy o e => kh y o (F.co.priv y hy).2 e) fun c v _ hc h => let ⟨o, c1, c2⟩ := h; ⟨o, kh c o hc c1, c2⟩
    rcases List.mem_cons.mp hm with rfl | hm
    · exact hLW hy
    · exact F.co.disj y hy hm
  have rD : Rep C (hideAll s'.heap (Wl env cs own ++ L :: μ₀)) (.ref Dd) (.list ((ds.filter q).map g)) := by
    obtain ⟨vs, ⟨n, hp⟩, hr⟩ := F'.ownd _ (List.mem_singleton.mpr rfl)
    refine .list ⟨n, hid_get hp fun hm => ?_⟩ (hr.mono (hid_less hsub))
    rcases List.mem_append.mp hm with hm | hm
    · exact F'.co.disj _ hD (List.mem_append_left _ hm)
    · rcases List.mem_cons.mp hm with q' | hm
      · exact hDL q'
      · exact F'.co.disj _ hD (List.mem_append_right _ hm)
  obtain ⟨m, hn, _⟩ := F'.ns
  refine wpAny_assign_Name (F₁.rebase.store hx rD fun h₂ tk₂ F₂ => ?_)
  have hn₂ : h₂.Ns L m := hn.at' fun o e => F₂.co.keep _ o (hid_get e fun hm => by
    rcases List.mem_append.mp hm with hm | hm
    · exact hLW hm
    · exact hLt hm)
  refine ⟨m, hn₂, fun h₃ hs₃ => ?_⟩
  have F₃ := F₁.unbase F₂ rfl
  have hbL : b.get? L = none := by
    cases q' : b.get? L with
    | none => rfl
    | some o => have := F.co.keep L o q'; rw [hLn] at this; cases this
  refine cont _ (F₃.hideEnd (h' := h₃) (tk := tk₂) (fun y o n e => (hs₃.2 y n).trans e) hbL F.co.tb hLt hLμ fun v ⟨o, c1, c2⟩ => ?_)
  obtain ⟨o', es, ep, n1, n2, _⟩ := hn₂
  rw [show ({ s' with heap := h₂, toks := tk₂ } : Shared).heap.get? L = some o' from n1] at c1
  cases c1
  rw [n2] at c2
  cases c2
end
end Mine

open PySem PySem.W PyProof.Rows PySem.Spec PySem.Calls
set_option Elab.async false
set_option maxRecDepth 100000
set_option linter.unusedVariables false
namespace Mine

section
variable {C : Cx} {k : Nat} {A : Around} {env : Env} {cs : List (Str × Addr)} {ρ ρ' ρf : List (Str × D)} {own own' : List (Addr × OD)} {b b' : Heap} {f s s₀ : Shared} {μ μ₀ μ₁ W : List Addr} {d d₁ d₂ : D} {h' : Heap} {tk : Nat} {kvs : List (Int × Int)} {a : Addr} {od od' : OD} {X : SA C} {ds : List D}
  {scope : Scope} {cl : List (Str × Addr)} {kx vx iter : Expr} {pos px : Pos} {x : Str} {R : Result → Shared → Prop}

theorem Fm.compEndD {Dd : Addr} {env' : Env} (F : Fm C (hideAll s₀.heap TB) s₀ μ env' cs ρ [(Dd, .dict kvs)] s) (hs : Heap.SameBut env'.locals s.heap h') :
    KH s₀.heap h' ∧ Good C μ h' ∧ Rep C (hideAll h' μ) (.ref Dd) (.dict kvs) := by
  have hL : env'.locals ∈ Wl env' cs [(Dd, OD.dict kvs)] := mem_Wl_L
  have hD : Dd ∈ Wl env' cs [(Dd, OD.dict kvs)] := mem_Wl_o (p := (Dd, OD.dict kvs)) (List.mem_singleton.mpr rfl)
  have hDL : Dd ≠ env'.locals := fun q => by
    have hnd := F.co.nodup
    unfold Wl at hnd
    exact (List.nodup_cons.mp hnd).1 (List.mem_append_right _ (by rw [← q]; simp))
  have gx : Ext (hideAll s.heap (Wl env' cs [(Dd, .dict kvs)] ++ μ)) (hideAll h' μ) := hid_mono fun y o n e => ⟨(hs.2 y fun q => n (List.mem_append_left _ (q ▸ hL))).trans e, fun hm => n (List.mem_append_right _ hm)⟩
  refine ⟨fun y o n e => ?_, F.co.good.turn gx F.co.tb (fun y hy => ?_) (fun P hP o e => ?_), ?_⟩
  · have q := hid_get e n
    exact (hs.2 y fun q' => by rw [q', (F.co.priv _ hL).1] at q; cases q).trans (F.co.keep y o q)
  · obtain ⟨o, e⟩ := F.co.good.low y (List.mem_append_right _ hy)
    exact ⟨o, (hs.2 y fun q => F.co.disj _ hL (q ▸ hy)).trans e⟩
  · exact (hs.2 P fun q => (F.co.priv _ hL).2 (q ▸ hP)).trans e
  · obtain ⟨l, hd, n, hi⟩ := F.ownd _ (List.mem_singleton.mpr rfl)
    exact .dict (hd.at fun o e => hid_get ((hs.2 Dd hDL).trans e) (F.co.disj _ hD)) n hi

theorem comp_loopD {I Dd : Addr} {fp : List Addr} {P : Nat → Value → Prop} {St : Nat → Heap → Prop} {g₀ : Heap} (F : Fm C b f (I :: μ) env cs ρf [(Dd, .dict [])] s) (rm : Room k A) (W : Walks C.prog C.w A I fp [I] ds.length P St)
    (hg : Ext g₀ (hideAll s.heap (Wl env cs [(Dd, .dict [])] ++ I :: μ))) (hfp : ∀ b ∈ fp, b = I ∨ ∃ o, g₀.get? b = some o) (hex : ∀ i h, St i h → ∃ o, h.get? I = some o ∧ ∀ v, o.data ≠ .cell v) (st : St 0 s.heap)
    (hP : ∀ i v', P i v' → ∃ d', ds[i]? = some d' ∧ Rep C g₀ v' d') (htb : ∀ P ∈ TB, P ∈ μ) (hIt : I ∉ TB) (hIμ : I ∉ μ) (hbI : b.get? I = none) (hz : ds.length ≤ 2 ^ 20)
    (hx : Kd env cs x) (gk gv : D → Int) (hk : ∀ d' ∈ ds, ∀ X, Ev C k env ((x, d') :: ρf) X kx (.int (gk d'))) (hv : ∀ d' ∈ ds, ∀ X, Ev C k env ((x, d') :: ρf) X vx (.int (gv d')))
    (hnm : ρf.lookup x = none)
    (done : ∀ s', Fm C b f μ env cs ρf [(Dd, .dict (ds.foldl (fun acc d => dput acc (gk d) (gv d)) []))] s' → R (.ok .next) s') :
    codeAny (model C.prog C.w) A (.compLoop (.DictComp kx vx [⟨.Name x px, iter, [], 0⟩] scope pos) 0 (.ref I) (.ref Dd) env) R s := by
  have hnc : ∀ i (hh : Heap), St i hh → ∀ v, ¬ hh.IsCell I v := fun i hh st v ⟨o, c1, c2⟩ => by
    obtain ⟨o', e1, e2⟩ := hex i hh st
    rw [c1] at e1; cases e1; exact e2 v c2
  have hex' : ∀ i (hh : Heap), St i hh → ∃ o, hh.get? I = some o := fun i hh st => let ⟨o, e, _⟩ := hex i hh st; ⟨o, e⟩
  refine codeAny_compLoop_testsD (fun kk s' => ∃ i, Fm C b f (I :: μ) env cs ρf [(Dd, .dict ((ds.take i).foldl (fun acc d => dput acc (gk d) (gv d)) []))] s' ∧ St i s'.heap ∧ Ext g₀ (hideAll s'.heap (Wl env cs [(Dd, .dict [])] ++ I :: μ)) ∧ i ≤ ds.length ∧ kk = ds.length + 1 - i) ?_ (ds.length + 1) ⟨0, F, st, hg, Nat.zero_le _, rfl⟩
  rintro kk s' ⟨i, Fi, sti, gxi, hile, rfl⟩
  by_cases hlt : i < ds.length
  · refine W.item i _ _ _ hlt sti fun v' h₂ tk₂ hPv st₂ hk₂ => ?_
    obtain ⟨d', hd', rv⟩ := hP i v' hPv
    have hmem : d' ∈ ds := List.mem_of_getElem? hd'
    have Fi₂ := Fi.hideTurn (h' := h₂) (tk := tk₂) (fun y o n e => hk₂ y o (fun hm => n (List.mem_singleton.mp hm)) e) hbI htb hIt (hex' _ _ st₂) (hnc _ _ sti)
    have gx₂ : Ext g₀ (hideAll h₂ (Wl env cs [(Dd, .dict [])] ++ I :: μ)) := gxi.trans (hid_mono fun y o n e => ⟨hk₂ y o (fun hm => n (List.mem_append_right _ (List.mem_singleton.mp hm ▸ List.mem_cons_self ..))) e, n⟩)
    have inb : ∀ y o, (hideAll h₂ (Wl env cs [(Dd, .dict [])] ++ I :: μ)).get? y = some o → (hideAll h₂ (Wl env cs [(Dd, .dict [])] ++ TB)).get? y = some o := fun y o e => by
      obtain ⟨e1, e2⟩ := hid_inv e
      refine hid_get e1 fun hm => e2 ?_
      rcases List.mem_append.mp hm with hm | hm
      · exact List.mem_append_left _ hm
      · exact List.mem_append_right _ (List.mem_cons_of_mem _ (htb y hm))
    have htk : ds.take (i + 1) = ds.take i ++ [d'] := by rw [List.take_add_one, hd']; rfl
    have fin : ∀ (l : List (Int × Int)) (s₅ : Shared), (ds.take (i + 1)).foldl (fun acc d => dput acc (gk d) (gv d)) [] = l → Fm C (hideAll h₂ (Wl env cs [(Dd, .dict [])] ++ TB)) f (I :: μ) env cs ((x, d') :: ρf) [(Dd, .dict l)] s₅ →
        ∃ m, m < ds.length + 1 - i ∧ ∃ i, Fm C b f (I :: μ) env cs ρf [(Dd, .dict ((ds.take i).foldl (fun acc d => dput acc (gk d) (gv d)) []))] s₅ ∧ St i s₅.heap ∧ Ext g₀ (hideAll s₅.heap (Wl env cs [(Dd, .dict [])] ++ I :: μ)) ∧ i ≤ ds.length ∧ m = ds.length + 1 - i := by
      intro l s₅ hl F₅
      refine ⟨ds.length + 1 - (i + 1), by lia, i + 1, ?_, ?_, ?_, hlt, rfl⟩
      · rw [hl]
        refine (Fi₂.unbase F₅ rfl).weak fun y d e => ?_
        rw [List.lookup_cons]
        by_cases q : y = x
        · rw [q, hnm] at e; cases e
        · rw [show (y == x) = false from beq_eq_false_iff_ne.mpr q]; exact e
      · refine W.frame _ _ _ st₂ fun y hy o e => F₅.co.keep y o ?_
        rcases hfp y hy with rfl | ⟨o', e'⟩
        · refine hid_get e fun hm => ?_
          rcases List.mem_append.mp hm with hm | hm
          · exact Fi₂.co.disj y hm (List.mem_cons_self ..)
          · exact hIt hm
        · have q1 := gx₂ y o' e'
          have q2 := (hid_inv q1).1
          have q3 : h₂.get? y = some o := e
          rw [q2] at q3
          cases q3
          exact inb y o q1
      · intro y o e
        have q1 := gx₂ y o e
        have q2 := (hid_inv q1).2
        exact hid_get (F₅.co.keep y o (inb y o q1)) q2
    refine wpAny_assign_Name (Fi₂.rebase.store (d := d') hx (rv.mono gx₂) fun h₃ tk₃ F₃ => ?_)
    rw [List.forIn_nil]
    refine wpAny_pure ?_
    simp only [if_true]
    refine F₃.ev rm (hk d' hmem (OwnX C _)) fun y s₄ F₄ _ _ r₄ => F₄.ev rm (hv d' hmem (OwnX C _)) fun z s₅ F₅ _ _ r₅ => ?_
    cases r₄; cases r₅
    rename_i t₄ t₅
    obtain ⟨l, hdd, hn, hi⟩ := F₅.ownd _ (List.mem_singleton.mpr rfl)
    refine wpAny_dictSet_pairs (isInt_self (gk d') t₄) hdd (fun h₆ hd₆ hs₆ => ?_) (by
      have e1 := foldlD_le gk gv (ds.take i) []
      have e3 : (ds.take i).length ≤ ds.length := by rw [List.length_take]; exact Nat.min_le_right _ _
      simp only [List.length_nil] at e1
      rw [hi.length]; exact Nat.le_trans (by lia) (Nat.le_trans hz (by decide)))
    refine fin _ _ ?_ (F₅.ownTurn hs₆ fun gx => ⟨_, hd₆, hn, hi.put (gk d') (gv d') t₅⟩)
    rw [htk, List.foldl_append]; rfl
  · have hin : i = ds.length := by lia
    subst hin
    refine W.done _ _ _ sti fun h₂ tk₂ hk₂ => ?_
    rw [List.take_length] at Fi
    exact done _ (Fi.hideEnd (h' := h₂) (tk := tk₂) (fun y o n e => hk₂ y o (fun hm => n (List.mem_singleton.mp hm)) e) hbI htb hIt hIμ (hnc _ _ sti))
where foldlD_le (gk gv : D → Int) : ∀ (t : List D) (l : List (Int × Int)), (t.foldl (fun acc d => dput acc (gk d) (gv d)) l).length ≤ l.length + t.length
  | [], l => by simp
  | p :: t, l => by
    have h1 := foldlD_le gk gv t (dput l (gk p) (gv p))
    have h2 : (dput l (gk p) (gv p)).length ≤ l.length + 1 := by unfold dput; split <;> simp
    simp only [List.foldl_cons, List.length_cons]; lia

theorem ev_dictcomp (ρf : List (Str × D)) (cl : List (Str × Addr)) (gk gv : D → Int) (hE : EnvF env) (he : Ev C k env ρ X iter d) (hi : Iters C d ds) (hρ : LookAll ρ ρf) (hf : FrOk env scope cl ρf) (hclos : closureFor scope env = pure cl) (hkind : scope.kind = .function)
    (hnames : ∀ x ∈ scope.names, x.2 = .local → scope.names.lookup x.1 = some .local) (hcn : ((scope.names.filter (·.2 == .cell)).map (·.1)).Nodup) (hz : ds.length ≤ 2 ^ 20) (hx : ∀ L, Kd (cEnv env scope cl L) (cCs scope L) x) (hnm : ρf.lookup x = none)
    (hk : ∀ d' ∈ ds, ∀ L X, Ev C k (cEnv env scope cl L) ((x, d') :: ρf) X kx (.int (gk d'))) (hv : ∀ d' ∈ ds, ∀ L X, Ev C k (cEnv env scope cl L) ((x, d') :: ρf) X vx (.int (gv d')))
    (hs : ∀ x, foldedSetIterable iter env x = pure x := by intro _; rfl) : Ev C k env ρ X (.DictComp kx vx [⟨.Name x px, iter, [], 0⟩] scope pos) (.dict (ds.foldl (fun acc d => dput acc (gk d) (gv d)) [])) := by
  intro μ A s Q E G p rm ret
  rw [arm_eval_DictComp]
  refine wpAny_comprehension_free (use := none) rfl hs hclos hkind hnames ?_
  refine he μ A s _ E G p rm fun v h₁ tk₁ k₁ G₁ r₁ => ?_
  refine hi μ A { s with heap := h₁, toks := tk₁ } _ E v G₁ r₁ rm.handled fun I h₂ tk₂ fp P St ext hnew W hfp hex st hP => ?_
  refine wpAny_newObj_type (wp_compEnv ?_)
  have sees₁ : Sees C env ρ μ h₁ := Sees.stable _ _ _ G k₁ G₁ p.1
  have G₂ : Good C μ h₂ := G₁.keep ext
  obtain ⟨F, gx⟩ := fm_comp (o₀ := { cls := .type "dict", data := .dict #[] }) (od₀ := .dict []) rfl (fun g H e => ⟨[], Heap.dictOf_iff.mpr ⟨_, e, Heap.dictOf_iff.mp (Heap.DictOf.new (knd := intKind C.prog C.w) ({} : Heap)) |>.elim fun o h => by
      have q : o = { cls := .type "dict", data := .dict #[] } := by
        have := h.1
        rw [Heap.get?_push_size _ rfl] at this
        exact (Option.some.inj this).symm
      exact q ▸ h.2⟩, G₂.sysmod, .nil⟩) (s := s) (s₁ := { s with heap := h₁, toks := tk₁ }) (tk := tk₂) hE hkind hcn G k₁ G₁ sees₁ hρ hf ext hnew (let ⟨o, e, _⟩ := hex 0 _ st; ⟨o, e⟩) ⟨_, _, rfl⟩
  have hIt : I ∉ TB := G₁.tb hnew
  have hIμ : I ∉ μ := fun m => by obtain ⟨o, e⟩ := G₁.low I m; rw [hnew] at e; cases e
  have hbI : (hideAll s.heap TB).get? I = none := by
    cases q : (hideAll s.heap TB).get? I with
    | none => rfl
    | some o =>
      obtain ⟨e1, e2⟩ := hid_inv q
      have := k₁ I o e2 e1
      rw [hnew] at this; cases this
  have xH : Ext h₂ (pushCells ((h₂.push { cls := .type "dict", data := .dict #[] }).push { cls := .type "dict", data := .dict #[] }) scope.names) := fun y o e => pushCells_keeps _ _ y o (Heap.get?_push_of_some _ (Heap.get?_push_of_some _ e))
  have st' := W.frame _ _ (pushCells ((h₂.push { cls := .type "dict", data := .dict #[] }).push { cls := .type "dict", data := .dict #[] }) scope.names) st fun y _ o e => xH y o e
  have loop : codeAny (model C.prog C.w) A (.compLoop (.DictComp kx vx [⟨.Name x px, iter, [], 0⟩] scope pos) 0 (.ref I) (.ref h₂.objs.size) (cEnv env scope cl (h₂.push { cls := .type "dict", data := .dict #[] }).objs.size)) (compPost (model C.prog C.w) A E none Q (.ref h₂.objs.size) (h₂.push { cls := .type "dict", data := .dict #[] }).objs.size)
      { s with heap := pushCells ((h₂.push { cls := .type "dict", data := .dict #[] }).push { cls := .type "dict", data := .dict #[] }) scope.names, toks := tk₂ } :=
    comp_loopD F rm W gx hfp hex st' hP G.sub hIt hIμ hbI hz (hx _) gk gv (fun d' hd' X => hk d' hd' _ X) (fun d' hd' X => hv d' hd' _ X) hnm fun s' F' => by
      obtain ⟨m, hn, _⟩ := F'.ns
      refine ⟨m, hn, fun h'' hs'' => ?_⟩
      obtain ⟨r1, r2, r3⟩ := F'.compEndD hs''
      obtain ⟨hh, tk, e⟩ := F'.co.same
      rw [e]
      exact ret _ _ tk r1 r2 r3
  exact codeAny_compStart_dict loop (W.self 0 _ _ _ st' loop)
end
end Mine

open PySem PySem.W PyProof.Rows PySem.Spec PySem.Calls
set_option Elab.async false
set_option maxRecDepth 100000
set_option linter.unusedVariables false
namespace Mine

mutual
/-- data that may be compared, of a depth -/
inductive Py : Nat → D → PyData → Prop
  | none {n : Nat} : Py n .none .none
  | bool {n : Nat} (b : Bool) : Py n (.bool b) (.bool b)
  | int {n : Nat} (i : Int) : Py n (.int i) (.int i)
  | tup {n : Nat} {ds : List D} {ps : List PyData} : PyL n ds ps → Py (n + 1) (.tup ds) (.tuple ps)
  | list {n : Nat} {ds : List D} {ps : List PyData} : PyL n ds ps → Py (n + 1) (.list ds) (.list ps)
inductive PyL : Nat → List D → List PyData → Prop
  | nil {n : Nat} : PyL n [] []
  | cons {n : Nat} {d : D} {ds : List D} {p : PyData} {ps : List PyData} : Py n d p → PyL n ds ps → PyL n (d :: ds) (p :: ps)
end

section
variable {C : Cx} {k : Nat} {g : Heap} {kvs : List (Int × Int)}

mutual
theorem rep_reads : ∀ {n : Nat} {d : D} {p : PyData} {v : Value}, Py n d p → Rep C g v d → ∃ as, Reads g v p as
  | _, _, _, _, .none, r => by cases r; exact ⟨_, .none⟩
  | _, _, _, _, .bool b, r => by cases r; exact ⟨_, .bool b⟩
  | _, _, _, _, .int i, r => by cases r; exact ⟨_, .int i _⟩
  | _, _, _, _, .tup h, r => by
    cases r with
    | tup i r =>
      obtain ⟨as, ra⟩ := repL_reads h r
      obtain ⟨o, e1, e2, n', e3⟩ := i
      exact ⟨_, .tuple e1 e2 e3 ra⟩
  | _, _, _, _, .list h, r => by
    cases r with
    | list i r =>
      obtain ⟨as, ra⟩ := repL_reads h r
      obtain ⟨n', e1⟩ := i
      exact ⟨_, .list e1 rfl rfl ra⟩
theorem repL_reads : ∀ {n : Nat} {ds : List D} {ps : List PyData} {vs : List Value}, PyL n ds ps → RepL C g vs ds → ∃ as, ReadsAll g vs ps as
  | _, _, _, _, .nil, r => by cases r; exact ⟨_, .nil⟩
  | _, _, _, _, .cons h hs, r => by
    cases r with
    | cons r1 r2 =>
      obtain ⟨as, ra⟩ := rep_reads h r1
      obtain ⟨bs, rb⟩ := repL_reads hs r2
      exact ⟨_, .cons ra rb⟩
end
mutual
theorem py_lay : ∀ {n : Nat} {d : D} {p : PyData}, Py n d p → p.canLay0 = true ∧ p.depth ≤ n
  | _, _, _, .none => ⟨rfl, Nat.zero_le _⟩
  | _, _, _, .bool b => ⟨rfl, Nat.zero_le _⟩
  | _, _, _, .int i => ⟨rfl, Nat.zero_le _⟩
  | _, _, _, .tup h => ⟨(pyL_lay h).1, Nat.succ_le_succ (pyL_lay h).2⟩
  | _, _, _, .list h => ⟨(pyL_lay h).1, Nat.succ_le_succ (pyL_lay h).2⟩
theorem pyL_lay : ∀ {n : Nat} {ds : List D} {ps : List PyData}, PyL n ds ps → PyData.canLayAll0 ps = true ∧ PyData.depthAll ps ≤ n
  | _, _, _, .nil => ⟨rfl, Nat.zero_le _⟩
  | _, _, _, .cons h hs => ⟨Bool.and_eq_true_iff.mpr ⟨(py_lay h).1, (pyL_lay hs).1⟩, Nat.max_le.mpr ⟨(py_lay h).2, (pyL_lay hs).2⟩⟩
end

theorem c_ne_of {n m : Nat} {d d' : D} {p p' : PyData} (h : Py n d p) (h' : Py m d' p') (hn : n ≤ 100) : Bin C k (compareOp .NotEq) d d' (.bool (!PyData.eqv p p')) := by
  rintro v₁ v₂ μ A s Q E G ⟨r1, r2⟩ rm ret
  obtain ⟨as, ra⟩ := rep_reads (g := s.heap) h (Rep.mono (hid_ext _ _) r1)
  obtain ⟨bs, rb⟩ := rep_reads (g := s.heap) h' (Rep.mono (hid_ext _ _) r2)
  refine SeqAt.compareNe_reads ra rb (py_lay h).1 (py_lay h').1 ?_ (ret _ s.heap s.toks KH.rfl G (.bool _))
  have := rm.units
  have := (py_lay h).2
  show A.units + min p.depth p'.depth < 9900
  lia
theorem c_eq_of {n m : Nat} {d d' : D} {p p' : PyData} (h : Py n d p) (h' : Py m d' p') (hn : n ≤ 100) : Bin C k (compareOp .Eq) d d' (.bool (PyData.eqv p p')) := by
  rintro v₁ v₂ μ A s Q E G ⟨r1, r2⟩ rm ret
  obtain ⟨as, ra⟩ := rep_reads (g := s.heap) h (Rep.mono (hid_ext _ _) r1)
  obtain ⟨bs, rb⟩ := rep_reads (g := s.heap) h' (Rep.mono (hid_ext _ _) r2)
  refine SeqAt.compareEq_reads ra rb (py_lay h).1 (py_lay h').1 ?_ (ret _ s.heap s.toks KH.rfl G (.bool _))
  have := rm.units
  have := (py_lay h).2
  show A.units + min p.depth p'.depth < 9900
  lia
theorem c_ne_same {n : Nat} {d : D} {p : PyData} (h : Py n d p) (hn : n ≤ 100) : Bin C k (compareOp .NotEq) d d (.bool false) := by
  have := c_ne_of (C := C) (k := k) h h hn
  rwa [SeqAt.eqv_refl p (py_lay h).1] at this
theorem c_eq_same {n : Nat} {d : D} {p : PyData} (h : Py n d p) (hn : n ≤ 100) : Bin C k (compareOp .Eq) d d (.bool true) := by
  have := c_eq_of (C := C) (k := k) h h hn
  rwa [SeqAt.eqv_refl p (py_lay h).1] at this

/-- pairs of ints -/
noncomputable def tupD (q : Int × Int) : D := .tup [.int q.1, .int q.2]
theorem py_ints {n : Nat} : ∀ (l : List Int), PyL n (l.map D.int) (l.map PyData.int)
  | [] => .nil
  | i :: l => .cons (.int i) (py_ints l)
theorem py_pairs {n : Nat} : ∀ (l : List (Int × Int)), PyL (n + 1) (l.map tupD) (l.map fun q => PyData.tuple [.int q.1, .int q.2])
  | [] => .nil
  | q :: l => .cons (.tup (.cons (.int _) (.cons (.int _) .nil))) (py_pairs l)

theorem f_listItems (hz : kvs.length ≤ 2 ^ 20) : Fn C k (.type "list") [.items kvs] (.list (kvs.map tupD)) := by
  rintro vs μ A s Q E G ⟨⟩ rm ret
  rename_i v vs h r
  cases r
  cases h with
  | items hv hd hn hi =>
  rename_i vw dd l
  obtain ⟨ep, hd1⟩ := hd.dictAt
  have hdH := hd1.at' (h' := s.heap) fun o e => hid_ext _ s.heap _ o e
  refine kdx_call rm.handled (let ⟨o, e, q⟩ := hv; ⟨o, of_hideAll _ e, q⟩) hdH (by rw [hi.length]; exact Nat.le_trans hz (by decide)) fun h' tk acc c as ext hS hl hG hacc => ?_
  have G' := G.keep ext
  have hnew : ∀ a, s.heap.objs.size ≤ a → a ∉ μ := fun a ha hm => by
    obtain ⟨o, e⟩ := G.low a hm
    exact absurd (Heap.lt_size e) (Nat.not_lt.mpr ha)
  refine ret _ h' tk (Ext.kh ext) G' (.list ⟨c, hid_get hS (hnew _ (Nat.le_refl _))⟩ ?_)
  rw [hacc]
  have key : ∀ (j : Nat), j ≤ as.length → RepL C (hideAll h' μ) ((as.drop (as.length - j)).map Value.ref) ((kvs.drop (as.length - j)).map tupD) := by
    intro j
    induction j with
    | zero =>
      intro _
      rw [Nat.sub_zero, List.drop_length, List.drop_eq_nil_of_le (by rw [hl, hi.length]; exact Nat.le_refl _)]
      exact .nil
    | succ j ih =>
      intro hj
      have hlt : as.length - (j + 1) < as.length := by lia
      have hlt2 : as.length - (j + 1) < kvs.length := by rw [hl, hi.length] at *; lia
      obtain ⟨key, x, u, e1, e2, e3⟩ := hG.pairs (as.length - (j + 1)) _ (List.getElem?_eq_getElem hlt)
      obtain ⟨c', t', rfl, e4⟩ := hi.at e1
      rw [List.drop_eq_getElem_cons hlt, List.drop_eq_getElem_cons hlt2, List.map_cons, List.map_cons]
      have e5 : as.length - (j + 1) + 1 = as.length - j := by lia
      rw [e5]
      refine .cons ?_ (ih (by lia))
      have e6 : kvs[as.length - (j + 1)] = (x, c') := by rw [List.getElem?_eq_getElem hlt2] at e4; exact Option.some.inj e4
      rw [e6]
      obtain ⟨tt, rfl⟩ := isInt_val e2
      have hab := hG.above _ (List.getElem_mem hlt)
      exact .tup ⟨_, hid_get e3 (hnew _ (Nat.le_of_lt hab)), rfl, _, rfl⟩ (.cons (.int _ _) (.cons (.int _ _) .nil))
  have := key as.length (Nat.le_refl _)
  simpa using this

theorem f_listRange {a b c : Int} (n : Nat) (hs : Builtin.Range.small a b c = true) (hn : Builtin.Range.rangeSize a b c = (n : Int)) (hz : n ≤ 2 ^ 20) : Fn C k (.type "list") [.rng a b c] (.list ((List.range n).map fun i : Nat => .int (a + (i : Int) * c))) := by
  rintro vs μ A s Q E G ⟨⟩ rm ret
  rename_i v vs h r
  cases r
  cases h
  rename_i r t u x hr
  refine call_list_range rm.handled (hid_ext μ s.heap _ _ hr) hs hn (Nat.le_trans hz (by decide)) fun h' tk acc c' ext hS hacc => ?_
  have hnew : s.heap.objs.size ∉ μ := G.new
  refine ret _ h' tk (Ext.kh ext) (G.keep ext) (.list ⟨c', hid_get hS hnew⟩ ?_)
  obtain ⟨h1, h2⟩ := hacc
  have key : ∀ (l : List Value) (j : Nat), (∀ i v, l[i]? = some v → ∃ t, v = Value.int (a + ((j + i : Nat) : Int) * c) t) → RepL C (hideAll h' μ) l ((List.range' j l.length).map fun i : Nat => D.int (a + (i : Int) * c)) := by
    intro l
    induction l with
    | nil => intro j _; exact .nil
    | cons v l ih =>
      intro j hv
      obtain ⟨t, rfl⟩ := hv 0 v rfl
      rw [List.length_cons, List.range'_succ, List.map_cons]
      exact .cons (.int _ _) (ih (j + 1) fun i v e => by
        obtain ⟨t, q⟩ := hv (i + 1) v (by simpa using e)
        exact ⟨t, by rw [q, show j + (i + 1) = j + 1 + i by lia]⟩)
  have := key acc.toList 0 fun i v e => by
    obtain ⟨t, q⟩ := h2 i v (by rw [← Array.getElem?_toList]; exact e)
    exact ⟨t, by rw [q]; simp⟩
  rw [Array.length_toList, h1] at this
  rw [List.range_eq_range']
  exact this
end
end Mine

open PySem PySem.W PyProof.Rows PySem.Spec PySem.Calls
set_option Elab.async false
set_option maxRecDepth 100000
set_option linter.unusedVariables false
namespace Mine

theorem bb_len : bootBuiltins (Str.ofString "len") = some (.builtin "len") := by decide +kernel
theorem bb_isinstance : bootBuiltins (Str.ofString "isinstance") = some (.builtin "isinstance") := by decide +kernel
theorem bb_tuple : bootBuiltins (Str.ofString "tuple") = some (.type "tuple") := by decide +kernel
theorem bb_range : bootBuiltins (Str.ofString "range") = some (.type "range") := by decide +kernel
theorem bb_sum : bootBuiltins (Str.ofString "sum") = some (.builtin "sum") := by decide +kernel
theorem bb_max : bootBuiltins (Str.ofString "max") = some (.builtin "max") := by decide +kernel
theorem bb_list : bootBuiltins (Str.ofString "list") = some (.type "list") := by decide +kernel
theorem bb_sorted : bootBuiltins (Str.ofString "sorted") = some (.builtin "sorted") := by decide +kernel
theorem bb_divmod : bootBuiltins (Str.ofString "divmod") = some (.builtin "divmod") := by decide +kernel
theorem bb_reversed : bootBuiltins (Str.ofString "reversed") = some (.type "reversed") := by decide +kernel

noncomputable def dadd (acc : List (Int × Int)) (p : Int × Int) : List (Int × Int) := match dget acc p.1 with
  | some c => dput acc p.1 (c + p.2)
  | none => dput acc p.1 p.2
noncomputable def copyD (t : List (Int × Int)) : List (Int × Int) := t.foldl (fun acc p => dput acc p.1 p.2) []
noncomputable def joinD (t s : List (Int × Int)) : List (Int × Int) := s.foldl dadd (copyD t)

theorem dput_le (l : List (Int × Int)) (x c : Int) : (dput l x c).length ≤ l.length + 1 := by
  unfold dput; split <;> simp
theorem dadd_le (l : List (Int × Int)) (p : Int × Int) : (dadd l p).length ≤ l.length + 1 := by
  unfold dadd; split <;> exact dput_le ..
theorem foldl_le {g : List (Int × Int) → Int × Int → List (Int × Int)} (hg : ∀ l p, (g l p).length ≤ l.length + 1) : ∀ (t l : List (Int × Int)), (t.foldl g l).length ≤ l.length + t.length
  | [], l => by simp
  | p :: t, l => by
    have h1 := foldl_le hg t (g l p)
    have h2 := hg l p
    simp only [List.foldl_cons, List.length_cons]; lia

section
variable {C : Cx} {k : Nat} {env : Env} {ρ : List (Str × D)} {X : SA C}

theorem f_isTuple {c : Int} : Fn C k (.builtin "isinstance") [.int c, .val (.type "tuple")] (.bool false) := by
  rintro vs μ A s Q E G ⟨⟩ rm ret
  rename_i v vs h r
  rcases r with ⟨h2, ⟨⟩⟩
  cases h; cases h2
  (with_reducible refine IsiPair.int_tuple ?_)
  exact ret _ s.heap _ KH.rfl G (.bool _)

set_option maxHeartbeats 1000000 in
theorem add_callers_ok {t u : List (Int × Int)} (ht : t.length + u.length ≤ 1000) : Fn C (k + 1) (.ref 21) [.dict t, .dict u] (.dict (joinD t u)) := by
  rintro vs μ A s Q E G ⟨⟩ rm ret
  rename_i v vs h r
  rcases r with ⟨h2, ⟨⟩⟩
  rename_i v2
  refine enter [(Str.ofString "target", v, .dict t), (Str.ofString "source", v2, .dict u)] G rm rfl rfl rfl rfl rfl rfl rfl (by decide) rfl rfl rfl rfl rfl ⟨h, h2, trivial⟩ (fun L s₁ A' E' F rm' => ?_) ret
  refine x_newDict F (.inl rfl) fun a s₂ F₂ => ?_
  refine x_forItems (kvs := t) (fun i => [(Str.ofString "source", .dict u), (Str.ofString "new_callers", .val (.ref a))]) (fun i => [(a, .dict (copyD (t.take i)))]) F₂ rm' (ev_items (ev_name rfl)) (.inl rfl) (.inl rfl) (fun _ => rfl) rfl (weak_all ⟨rfl, rfl, trivial⟩) ?_ ?_
  · intro i x c hx b' μ' s' E' F'
    have hl : (copyD (t.take i)).length ≤ 2 ^ 20 := by
      have := foldl_le (g := fun acc p => dput acc p.1 p.2) (fun l p => dput_le l p.1 p.2) (t.take i) []
      have h3 : (t.take i).length ≤ t.length := by rw [List.length_take]; exact Nat.min_le_right _ _
      simp only [List.length_nil] at this
      unfold copyD; lia
    refine x_setD F' rm' rfl (ev_name rfl) (ev_name rfl) hl fun s'' F'' => x_nil ⟨rfl, ?_⟩
    have e : t.take (i + 1) = t.take i ++ [(x, c)] := by rw [List.take_add_one, hx]; rfl
    have e2 : copyD (t.take (i + 1)) = dput (copyD (t.take i)) x c := by rw [e]; unfold copyD; rw [List.foldl_append]; rfl
    rw [e2]
    exact F''.weak (weak_all ⟨rfl, rfl, trivial⟩)
  · intro s₃ F₃
    rw [List.take_length] at F₃
    refine x_forItems (kvs := u) (fun i => [(Str.ofString "new_callers", .val (.ref a))]) (fun i => [(a, .dict ((u.take i).foldl dadd (copyD t)))]) F₃ rm' (ev_items (ev_name rfl)) (.inl rfl) (.inl rfl) (fun _ => rfl) rfl (weak_all ⟨rfl, trivial⟩) ?_ ?_
    · intro i x c hx b' μ' s' E' F'
      have hl : ((u.take i).foldl dadd (copyD t)).length ≤ 2 ^ 20 := by
        have h4 := foldl_le dadd_le (u.take i) (copyD t)
        have h5 := foldl_le (g := fun acc p => dput acc p.1 p.2) (fun l p => dput_le l p.1 p.2) t []
        have h6 : (u.take i).length ≤ u.length := by rw [List.length_take]; exact Nat.min_le_right _ _
        simp only [List.length_nil] at h5
        unfold copyD at h4 ⊢; lia
      have e : u.take (i + 1) = u.take i ++ [(x, c)] := by rw [List.take_add_one, hx]; rfl
      have e2 : (u.take (i + 1)).foldl dadd (copyD t) = dadd ((u.take i).foldl dadd (copyD t)) (x, c) := by rw [e, List.foldl_append]; rfl
      rw [e2]
      generalize (u.take i).foldl dadd (copyD t) = acc at F' hl ⊢
      refine x_if F' rm' (evb_own (x := Str.ofString "new_callers") rfl (evb_compare (ev_name rfl) (ev_name rfl) c_in_dict)) (fun hc s₄ F₄ => ?_) (fun hc s₄ F₄ => ?_)
      · obtain ⟨c₀, hg⟩ := Option.isSome_iff_exists.mp hc
        refine x_if F₄ rm' (c := false) (evb_of (ev_call (ev_builtin F.envF rfl rfl bb_isinstance) (evl_cons (ev_name rfl) (evl_cons (ev_builtin F.envF rfl rfl bb_tuple) evl_nil)) kp_builtin f_isTuple) t_bool) (fun q => nomatch q) fun _ s₅ F₅ => ?_
        refine x_augD F₅ rm' rfl (ev_name rfl) (ev_name rfl) hg hl fun s₆ F₆ => x_nil (x_nil (x_nil ⟨rfl, ?_⟩))
        have e3 : dadd acc (x, c) = dput acc x (c₀ + c) := by unfold dadd; rw [hg]
        rw [e3]
        exact F₆.weak (weak_all ⟨rfl, trivial⟩)
      · have hg : dget acc x = none := by simpa using hc
        refine x_setD F₄ rm' rfl (ev_name rfl) (ev_name rfl) hl fun s₆ F₆ => x_nil (x_nil ⟨rfl, ?_⟩)
        have e3 : dadd acc (x, c) = dput acc x c := by unfold dadd; rw [hg]
        rw [e3]
        exact F₆.weak (weak_all ⟨rfl, trivial⟩)
    · intro s₇ F₇
      rw [List.take_length] at F₇
      refine x_return F₇ rm' (ev_name rfl) fun v s' F' r => ?_
      cases r
      exact F'.retOwnD (List.mem_singleton.mpr rfl)
end
end Mine

open PySem PySem.W PyProof.Rows PySem.Spec PySem.Calls
set_option Elab.async false
set_option maxRecDepth 100000
set_option linter.unusedVariables false
namespace Mine

noncomputable def clOf (scope : Scope) (env : Env) : List (Str × Addr) := scope.names.foldl (fun cs p => if p.2 == .free then (p.1, (env.cells.lookup p.1).getD 0) :: cs else cs) []

theorem closure_ok {scope : Scope} {env : Env} (h : (scope.names.all fun p => p.2 != .free || (env.cells.lookup p.1).isSome) = true) : closureFor scope env = pure (clOf scope env) := by
  unfold closureFor clOf
  have key : ∀ (l : List (Str × NameKind)) (acc : List (Str × Addr)), (l.all fun p => p.2 != .free || (env.cells.lookup p.1).isSome) = true →
      (forIn l acc fun x r => (match x with | (name, kind) => if kind == .free then (do let a ← cellOf env name; pure (ForInStep.yield ((name, a) :: r))) else pure (ForInStep.yield r)) : Sem (List (Str × Addr))) = pure (l.foldl (fun cs p => if p.2 == .free then (p.1, (env.cells.lookup p.1).getD 0) :: cs else cs) acc) := by
    intro l
    induction l with
    | nil => intro acc _; rfl
    | cons p r ih =>
      intro acc h
      obtain ⟨n, kd⟩ := p
      rw [List.all_cons, Bool.and_eq_true] at h
      rw [List.forIn_cons, List.foldl_cons]
      by_cases hk : (kd == .free) = true
      · have h1 := h.1
        simp only [bne, hk, Bool.not_true, Bool.false_or] at h1
        obtain ⟨c, hc⟩ := Option.isSome_iff_exists.mp h1
        simp only [hk, if_true, cellOf, hc, Option.getD_some]
        exact ih _ h.2
      · simp only [hk, if_false]
        exact ih _ h.2
  have := key scope.names [] h
  simpa using this

section
variable {C : Cx} {k : Nat} {env : Env} {ρ : List (Str × D)} {X : SA C}

noncomputable def keyI : D → Int
  | .int i => i
  | _ => 0
noncomputable def movedD (kvs : List (Int × Int)) (n p : Int) : List (Int × Int) := (kvs.map fun q => D.int q.1).foldl (fun acc d => dput acc ((keyI d + n).fmod p) ((dget kvs (keyI d)).getD 0)) []

theorem dget_mem {kvs : List (Int × Int)} {i : Int} (h : D.int i ∈ kvs.map fun q => D.int q.1) : ∃ c, dget kvs i = some c := by
  obtain ⟨q, hq, e⟩ := List.mem_map.mp h
  cases e
  unfold dget
  cases hf : kvs.find? fun kv => kv.1 = q.1 with
  | none => have := List.find?_eq_none.mp hf q hq; simp at this
  | some z => exact ⟨z.2, rfl⟩

set_option maxHeartbeats 1000000 in
theorem moved_ok {kvs : List (Int × Int)} {n p : Int} (hp : p ≠ 0) (hz : kvs.length ≤ 1000) : Fn C (k + 1) (.ref 135) [.dict kvs, .int n, .int p] (.dict (movedD kvs n p)) := by
  rintro vs μ A s Q E G ⟨⟩ rm ret
  rename_i v vs h r
  rcases r with ⟨h2, ⟨h3, ⟨⟩⟩⟩
  rename_i v2 v3
  refine enter [(Str.ofString "table", v, .dict kvs), (Str.ofString "by", v2, .int n), (Str.ofString "p", v3, .int p)] G rm rfl rfl rfl rfl rfl rfl rfl (by decide) rfl rfl rfl rfl rfl ⟨h, h2, h3, trivial⟩ (fun L s₁ A' E' F rm' => ?_) ret
  refine x_return F rm' (ev_dictcomp (ds := kvs.map fun q => D.int q.1) [(Str.ofString "table", .dict kvs), (Str.ofString "by", .int n), (Str.ofString "p", .int p)] (clOf _ _) (fun d => (keyI d + n).fmod p) (fun d => (dget kvs (keyI d)).getD 0) F.envF (ev_name rfl) it_dict ⟨rfl, rfl, rfl, trivial⟩ ?_ (closure_ok rfl) rfl ?_ (by decide) (by rw [List.length_map]; lia) (fun L => .inl rfl) rfl ?_ ?_) fun v s' F' r => F'.ret r
  · exact ⟨⟨.inl rfl, .inr rfl, rfl, rfl, rfl⟩, ⟨.inl rfl, .inr rfl, rfl, rfl, rfl⟩, ⟨.inl rfl, .inr rfl, rfl, rfl, rfl⟩, trivial⟩
  · decide
  · intro d' hd' L' X'
    obtain ⟨q, hq, rfl⟩ := List.mem_map.mp hd'
    exact ev_binop (ev_binop (ev_name rfl) (ev_name rfl) b_add) (ev_name rfl) (b_mod hp)
  · intro d' hd' L' X'
    obtain ⟨q, hq, rfl⟩ := List.mem_map.mp hd'
    obtain ⟨c, hc⟩ := dget_mem hd'
    have e : (dget kvs (keyI (D.int q.1))).getD 0 = c := by show (dget kvs q.1).getD 0 = c; rw [hc]; rfl
    rw [e]
    exact ev_sub (ev_name rfl) (ev_name rfl) (sub_dict hc)
end
end Mine

open PySem PySem.W PyProof.Rows PySem.Spec PySem.Calls
set_option Elab.async false
set_option maxRecDepth 100000
set_option linter.unusedVariables false
namespace Mine
section
variable {C : Cx} {k : Nat} {env : Env} {ρ : List (Str × D)} {X : SA C}

theorem ev_listItems {o : Expr} {p₁ p₃ p₄ p₅ : Pos} {kvs : List (Int × Int)} (hE : EnvF env) (hk : env.kindOf (Str.ofString "list") = some .globalImplicit) (ho : Ev C k env ρ X o (.dict kvs)) (hz : kvs.length ≤ 1000)
    (hbase : attributeBase o "items" env (eval o env) = eval o env := by rfl) (hl : (p₃.endLine == p₄.line) = true := by rfl) :
    Ev C k env ρ X (.Call (.Name (Str.ofString "list") p₁) [.Call (.Attribute o (Str.ofString "items") p₃) [] [] p₄] [] p₅) (.list (kvs.map tupD)) :=
  ev_call (ev_builtin hE hk rfl bb_list) (evl_cons (ev_items ho hbase hl) evl_nil) kp_type (f_listItems (by lia))

set_option maxHeartbeats 1000000 in
theorem joined_ok {t u : List (Int × Int)} (ht : t.length + u.length ≤ 1000) : Fn C (k + 2) (.ref 142) [.dict t, .dict u] (.dict (joinD t u)) := by
  rintro vs μ A s Q E G ⟨⟩ rm ret
  rename_i v vs h r
  rcases r with ⟨h2, ⟨⟩⟩
  rename_i v2
  refine enter [(Str.ofString "one", v, .dict t), (Str.ofString "other", v2, .dict u)] G rm rfl rfl rfl rfl rfl rfl rfl (by decide) rfl rfl rfl rfl rfl ⟨h, h2, trivial⟩ (fun L s₁ A' E' F rm' => ?_) ret
  have hE := F.envF
  refine x_assign F rm' (ev_list (evl_cons (ev_listItems hE rfl (ev_name rfl) (kvs := t) (by lia)) (evl_cons (ev_listItems hE rfl (ev_name rfl) (kvs := u) (by lia)) evl_nil))) (.inl rfl) fun s₂ F₂ => ?_
  refine x_assign F₂ rm' (ev_call (ev_global hE rfl rfl) (evl_cons (ev_name rfl) (evl_cons (ev_name rfl) evl_nil)) (kp_fn rfl) (add_callers_ok ht)) (.inl rfl) fun s₃ F₃ => ?_
  refine x_if_no F₃ rm' (evb_compare (ev_list (evl_cons (ev_listItems hE rfl (ev_name rfl) (kvs := t) (by lia)) (evl_cons (ev_listItems hE rfl (ev_name rfl) (kvs := u) (by lia)) evl_nil))) (ev_name rfl) (c_ne_same (n := 5) (.list (.cons (.list (py_pairs t)) (.cons (.list (py_pairs u)) .nil))) (by decide))) fun s₄ F₄ => ?_
  exact x_return F₄ rm' (ev_name rfl) fun v s' F' r => F'.ret r
end
end Mine

open PySem PySem.W PyProof.Rows PySem.Spec PySem.Calls
set_option Elab.async false
set_option maxRecDepth 100000
set_option linter.unusedVariables false
namespace Mine
section
variable {C : Cx} {k : Nat} {env : Env} {ρ : List (Str × D)} {X : SA C} {d : D} {ds es : List D} {g : Heap}

theorem repL_ints : ∀ {l : List Int} {vs : List Value}, RepL C g vs (l.map D.int) → IntsAre vs l
  | [], _, ⟨⟩ => .nil
  | i :: l, _, ⟨h, r⟩ => by cases h; exact .cons _ _ (repL_ints r)
theorem ints_repL : ∀ {l : List Int} {vs : List Value}, IntsAre vs l → RepL C g vs (l.map D.int)
  | _, _, .nil => .nil
  | _, _, .cons n t h => .cons (.int _ _) (ints_repL h)

theorem b_addList (hz : ds.length + es.length ≤ 2 ^ 20) : Bin C k (binaryOp .Add) (.list ds) (.list es) (.list (ds ++ es)) := by
  rintro v₁ v₂ μ A s Q E G ⟨⟨⟩, ⟨⟩⟩ rm ret
  rename_i a vs hl hr b us hl2 hr2
  obtain ⟨n, ho⟩ := id hl
  obtain ⟨n2, ho2⟩ := id hl2
  have ho' := hid_ext _ _ _ _ ho
  have ho2' := hid_ext _ _ _ _ ho2
  have e1 := repL_length hr
  have e2 := repL_length hr2
  rw [Array.length_toList] at e1 e2
  refine concat_meets ⟨_, ho', rfl⟩ ⟨_, ho2', rfl⟩ noFill_list_add seq_list_add PySem.F.slot_list_add PySem.F.entry_list_add (PySem.F.args_list_add_2 _ _) (list_addW a b vs us n n2 none none #[] #[] (by show vs.size + us.size ≤ sizeLine; rw [e1, e2]; exact Nat.le_trans hz (by decide))) ⟨ho', ho2', ?_⟩
  refine new_ret (tk := s.toks) G ret fun h1 h2 => .list ⟨_, h1⟩ ?_
  rw [Array.toList_append]
  exact (hr.mono h2).append (hr2.mono h2)

theorem b_mulList {x : Int} (h0 : 0 ≤ x) (h1 : x ≤ 2 ^ 20) : Bin C k (binaryOp .Mult) (.list [d]) (.int x) (.list (List.replicate x.toNat d)) := by
  rintro v₁ v₂ μ A s Q E G ⟨⟨⟩, ⟨⟩⟩ rm ret
  rename_i a vs hl hr u
  obtain ⟨n, ho⟩ := id hl
  have hl := hid_ext _ _ _ _ ho
  have e1 := repL_length hr
  rw [Array.length_toList] at e1
  have e1' : vs.size = 1 := e1
  refine wpAny_binaryOp_repeat_ref (T := "list") (U := "int") (by decide) ⟨_, hl, rfl⟩ (fun s' => typeIs_int s' x u) noFill_list_mul F.fills_int_mul F.slot_int_rmul repeat_list F.slot_int_index.lookup
    (call_meets F.slot_int_rmul (typeIs_int s x u) F.entry_int_rmul (F.args_int_rmul_2 _ _) (int___rmul___int_list x u a vs n)
      ⟨hl, rfl, ⟨_, hl, rfl⟩, call_meets F.slot_list_mul ⟨_, hl, rfl⟩ F.entry_list_mul (F.args_list_mul_2 _ _)
        (AutoListH.list___mul___list_int_3 a vs n x u (by simp [Builtin.List.listFitsIndex]; lia) (by rw [e1']; lia) (by simp [Builtin.List.listTooLong, sizeLine, e1']; lia))
        ⟨hl, ?_⟩⟩)
  refine new_ret (tk := s.toks) G ret fun h1 h2 => .list ⟨_, h1⟩ ?_
  generalize hideAll (s.heap.push _) μ = g at h2 ⊢
  have hne : vs.isEmpty = false := by simp [Array.isEmpty, e1']
  rw [if_neg (by rw [hne]; decide)]
  obtain ⟨v, hv⟩ : ∃ v, vs = #[v] := by
    obtain ⟨l⟩ := vs
    match l, e1' with
    | [v], _ => exact ⟨v, rfl⟩
  subst hv
  have hv : Rep C g v d := by
    cases hr with | cons hr _ => exact hr.mono h2
  have key : ∀ (n : Nat) (acc : Array Value) (es : List D), RepL C g acc.toList es → RepL C g (List.foldl (fun x1 x2 => x1 ++ x2) acc (List.replicate n #[v])).toList (es ++ List.replicate n d) := by
    intro n
    induction n with
    | zero => intro acc es h; simpa using h
    | succ n ih =>
      intro acc es h
      rw [List.replicate_succ, List.replicate_succ, List.foldl_cons]
      have := ih (acc ++ #[v]) (es ++ [d]) (by rw [Array.toList_append]; exact h.append (.cons hv .nil))
      simpa using this
  exact key x.toNat #[] [] .nil

theorem c_notin {l : List Int} {i : Int} : Bin C k (compareOp .NotIn) (.int i) (.list (l.map D.int)) (.bool (!(l.any (· == i)))) := by
  rintro v₁ v₂ μ A s Q E G ⟨⟨⟩, ⟨⟩⟩ rm ret
  rename_i t a vs hl hr
  obtain ⟨li⟩ := vs
  have hl' := hl.isList.at fun o e => hid_ext μ s.heap _ o e
  (with_reducible refine notin_list_ints hl' (repL_ints hr) ?_)
  exact ret _ s.heap _ KH.rfl G (.bool _)

theorem ev_count {o e : Expr} {apos pos : Pos} {l : List Int} {i : Int} (ho : Ev C k env ρ X o (.list (l.map D.int))) (he : EvL C k env ρ X pos [e] [.int i])
    (hbase : attributeBase o "count" env (eval o env) = eval o env := by rfl) (hline : (apos.endLine == pos.line) = true := by rfl)
    (hfew : ((backTo pos (starEach [e] env)).all (fun x => !x.1) && (backToKw pos (keywordEach [] env)).all (fun x => x.1.isSome) && decide ([e].length + ([] : List Keyword).length + (if ([] : List Keyword).isEmpty then 0 else 1) < 30)) = true := by rfl)
    (hs : starEach [e] env = (false, eval e env) :: starEach [] env := by rfl) : Ev C k env ρ X (.Call (.Attribute o "count" apos) [e] [] pos) (.int (l.count i : Nat)) := by
  refine ev_meth slf_list F.plainAttrs_list F.slot_list_count F.type_list_count ho he ?_ hbase hfew hline hs rfl
  rintro v vs μ A s Q E G ⟨h1, h2⟩ rm ret
  cases h1
  rename_i a vs' hl hr
  rcases h2 with ⟨h2, ⟨⟩⟩
  cases h2
  obtain ⟨li⟩ := vs'
  have hl' := hl.isList.at fun o e => hid_ext μ s.heap _ o e
  (with_reducible refine count_list_ints hl' (repL_ints hr) ?_)
  exact ret _ s.heap _ KH.rfl G (.int _ _)

theorem ev_dget {o e e2 : Expr} {apos pos : Pos} {kvs : List (Int × Int)} {i j : Int} (ho : Ev C k env ρ X o (.dict kvs)) (he : EvL C k env ρ X pos [e, e2] [.int i, .int j])
    (hbase : attributeBase o "get" env (eval o env) = eval o env := by rfl) (hline : (apos.endLine == pos.line) = true := by rfl)
    (hfew : ((backTo pos (starEach [e, e2] env)).all (fun x => !x.1) && (backToKw pos (keywordEach [] env)).all (fun x => x.1.isSome) && decide ([e, e2].length + ([] : List Keyword).length + (if ([] : List Keyword).isEmpty then 0 else 1) < 30)) = true := by rfl)
    (hs : starEach [e, e2] env = (false, eval e env) :: starEach [e2] env := by rfl) (hp : (backTo pos (starEach [e2] env)).any (·.1) = false := by rfl) : Ev C k env ρ X (.Call (.Attribute o "get" apos) [e, e2] [] pos) (.int ((dget kvs i).getD j)) := by
  refine ev_meth slf_dict F.plainAttrs_dict F.slot_dict_get F.type_dict_get ho he ?_ hbase hfew hline hs hp
  rintro v vs μ A s Q E G ⟨h1, h2⟩ rm ret
  cases h1
  rename_i a l hd n hi
  rcases h2 with ⟨h2, ⟨h3, ⟨⟩⟩⟩
  cases h2
  cases h3
  rename_i t1 t2
  have hd' := hd.keep (hid_ext μ s.heap)
  refine call_meetsIn F.slot_dict_get hd'.typeIs F.entry_dict_get (F.args_dict_get_3 _ _ _) (meets_dict_get_default (intKind C.prog C.w) a (isInt_self i t1) n (.int j t2)) ⟨_, hd'.mapOf, ?_⟩
  refine ret _ s.heap _ KH.rfl G ?_
  rcases hi.get i with ⟨c, t, e1, e2⟩ | ⟨e1, e2⟩
  · rw [e1, e2]; exact .int _ _
  · rw [e1, e2]; exact .int _ _

theorem t_list (hz : ds.length ≤ 2 ^ 20) : UnaB C k truthy (.list ds) (!ds.isEmpty) := by
  rintro v₁ μ A s Q E G ⟨⟩ rm ret
  rename_i a vs hl hr
  have e1 := repL_length hr
  rw [Array.length_toList] at e1
  have hl' := hl.isList.at fun o e => hid_ext μ s.heap _ o e
  (with_reducible refine wpAny_truthy_list hl' (by lia) ?_)
  refine ret _ s.heap _ KH.rfl G ?_
  cases ds with
  | nil => simp at e1; subst e1; rfl
  | cons d ds => simp [Array.isEmpty, e1]

theorem ints_items : ∀ {vs : List Value} {l : List Int}, IntsAre vs l → ∃ xs : List (Int × Tok), vs = xs.map (fun p => Value.int p.1 p.2) ∧ xs.map (·.1) = l
  | _, _, .nil => ⟨[], rfl, rfl⟩
  | _, _, .cons n t h => by
    obtain ⟨xs, e1, e2⟩ := ints_items h
    exact ⟨(n, t) :: xs, by rw [List.map_cons, e1], by rw [List.map_cons, e2]⟩

theorem preSum_take (xs : List (Int × Tok)) : ∀ n, n ≤ xs.length → preSum (numAt xs.toArray) n = ((xs.map (·.1)).take n).sum := by
  intro n
  induction n with
  | zero => intro _; rfl
  | succ n ih =>
    intro h
    show preSum (numAt xs.toArray) n + numAt xs.toArray n = _
    rw [ih (by lia), List.take_add_one, List.sum_append]
    congr 1
    have : n < xs.length := by lia
    simp [numAt, this]

theorem f_sum {l : List Int} (hb : ∀ x ∈ l, x.natAbs ≤ 2 ^ 20) (hz : l.length ≤ 2 ^ 20) : Fn C k (.builtin "sum") [.list (l.map D.int)] (.int l.sum) := by
  rintro vs μ A s Q E G ⟨⟩ rm ret
  rename_i v vs h r
  cases r
  cases h
  rename_i a vs hl hr
  have hl' := hl.isList.at fun o e => hid_ext μ s.heap _ o e
  obtain ⟨xs, e1, e2⟩ := ints_items (repL_ints hr)
  have ev : vs = intItems xs.toArray := by
    rw [← Array.toArray_toList (xs := vs), e1]; simp [intItems]
  rw [ev] at hl'
  have hlen : xs.length = l.length := by rw [← e2, List.length_map]
  have bound : ∀ (m : List Int), (∀ x ∈ m, x.natAbs ≤ 2 ^ 20) → m.sum.natAbs ≤ m.length * 2 ^ 20 := by
    intro m
    induction m with
    | nil => intro _; simp
    | cons x m ih =>
      intro h
      have h1 := ih fun y hy => h y (List.mem_cons_of_mem _ hy)
      have h2 := h x (List.mem_cons_self ..)
      have h3 := Int.natAbs_add_le x m.sum
      rw [List.sum_cons, List.length_cons, Nat.add_mul]
      lia
  refine sum_intList rm.handled hl' (fun j hj => ⟨?_, ?_⟩) fun h' tk t' ext => ?_
  · have hj' : j < xs.length := by simpa using hj
    have hm : numAt xs.toArray j = (xs.map (·.1))[j]'(by simpa using hj') := by simp [numAt, hj']
    rw [hm, InLong]
    have := hb ((xs.map (·.1))[j]'(by simpa using hj')) (by rw [← e2]; exact List.getElem_mem _)
    lia
  · have hj' : j < xs.length := by simpa using hj
    rw [preSum_take xs (j + 1) (by lia), e2, InLong]
    have h1 := bound (l.take (j + 1)) fun x hx => hb x (List.mem_of_mem_take hx)
    have h2 : (l.take (j + 1)).length ≤ 2 ^ 20 := by rw [List.length_take]; lia
    have h3 : (l.take (j + 1)).length * 2 ^ 20 ≤ 2 ^ 20 * 2 ^ 20 := Nat.mul_le_mul_right _ h2
    lia
  · have e3 : preSum (numAt xs.toArray) xs.toArray.size = l.sum := by
      rw [List.size_toArray, preSum_take xs _ (Nat.le_refl _), e2, hlen, List.take_length]
    rw [e3]
    exact ret _ h' tk (Ext.kh ext) (G.keep ext) (.int _ _)

theorem argBest_max (f : Nat → Int) : ∀ n, argBest (fun i j => decide (f i > f j)) n ≤ n ∧ ∀ j, j ≤ n → f j ≤ f (argBest (fun i j => decide (f i > f j)) n) := by
  intro n
  induction n with
  | zero => exact ⟨Nat.le_refl _, fun j hj => by have : j = 0 := by lia
                                                 subst this; exact Int.le_refl _⟩
  | succ n ih =>
    obtain ⟨h1, h2⟩ := ih
    unfold argBest
    by_cases h : f (n + 1) > f (argBest (fun i j => decide (f i > f j)) n)
    · simp only [h, decide_true, if_true]
      refine ⟨Nat.le_refl _, fun j hj => ?_⟩
      by_cases q : j = n + 1
      · subst q; exact Int.le_refl _
      · have := h2 j (by lia); lia
    · simp only [h, decide_false, Bool.false_eq_true, if_false]
      refine ⟨by lia, fun j hj => ?_⟩
      by_cases q : j = n + 1
      · subst q; lia
      · exact h2 j (by lia)

theorem f_max {l : List Int} {m : Int} (hm : m ∈ l) (hle : ∀ x ∈ l, x ≤ m) : Fn C k (.builtin "max") [.list (l.map D.int)] (.int m) := by
  rintro vs μ A s Q E G ⟨⟩ rm ret
  rename_i v vs h r
  cases r
  cases h
  rename_i a vs hl hr
  have hl' := hl.isList.at fun o e => hid_ext μ s.heap _ o e
  obtain ⟨xs, e1, e2⟩ := ints_items (repL_ints hr)
  have ev : vs = intItems xs.toArray := by
    rw [← Array.toArray_toList (xs := vs), e1]; simp [intItems]
  rw [ev] at hl'
  have hlen : xs.length = l.length := by rw [← e2, List.length_map]
  have hpos : 0 < l.length := List.length_pos_of_mem hm
  have hat : ∀ j, j < xs.length → ∃ h : j < l.length, numAt xs.toArray j = l[j] := fun j hj => ⟨by lia, by
    subst e2
    simp [numAt, hj]⟩
  refine max_intList rm.handled hl' (by simpa [hlen] using hpos) fun v h' tk hv ext => ?_
  obtain ⟨h1, h2⟩ := argBest_max (numAt xs.toArray) (xs.toArray.size - 1)
  generalize argBest (fun i j => decide (numAt xs.toArray i > numAt xs.toArray j)) (xs.toArray.size - 1) = b at *
  rw [List.size_toArray] at h1 h2
  have hbx : b < xs.length := by lia
  have hval : ∃ t, v = .int (numAt xs.toArray b) t := by
    simp [intItems, hbx] at hv
    exact ⟨xs[b].2, by rw [← hv]; simp [numAt, hbx]⟩
  obtain ⟨t, rfl⟩ := hval
  have hmx : numAt xs.toArray b = m := by
    obtain ⟨q1, q2⟩ := hat b hbx
    obtain ⟨j, hj, q3⟩ := List.getElem_of_mem hm
    have q4 := h2 j (by lia)
    obtain ⟨_, q5⟩ := hat j (by lia)
    have q6 := hle l[b] (List.getElem_mem _)
    lia
  rw [hmx]
  exact ret _ h' tk (Ext.kh ext) (G.keep ext) (.int _ _)

/-- a part of a slice -/
noncomputable def EvO (C : Cx) (k : Nat) (env : Env) (ρ : List (Str × D)) (X : SA C) : Option Expr → Option Int → Prop
  | none, o => o = none
  | some e, o => ∃ i, o = some i ∧ Ev C k env ρ X e (.int i)

noncomputable def pickD (ds : List D) (lo hi st : Option Int) : List D := (sliceRange (sliceBounds lo hi st ds.length).1 (sliceBounds lo hi st ds.length).2.1 (sliceBounds lo hi st ds.length).2.2).filterMap (ds[·]?)

theorem RepL.pick {vs : List Value} (h : RepL C g vs ds) (l : List Nat) : RepL C g (l.filterMap (vs[·]?)) (l.filterMap (ds[·]?)) := by
  induction l with
  | nil => exact .nil
  | cons i l ih =>
    cases e : ds[i]? with
    | none =>
      have e2 : vs[i]? = none := by rw [List.getElem?_eq_none_iff] at e ⊢; rw [repL_length h]; exact e
      rw [List.filterMap_cons_none e, List.filterMap_cons_none e2]; exact ih
    | some d =>
      obtain ⟨v, e2, r⟩ := RepL.get h e
      rw [List.filterMap_cons_some e, List.filterMap_cons_some e2]; exact .cons r ih

theorem evO_run {oe : Option Expr} {oi : Option Int} (h : EvO C k env ρ X oe oi) : Ok C k (Cn C env ρ X) (valueOrNone (evalOpt oe env)) (fun v _ _ => IsPart v oi) := by
  intro μ A s Q E G p rm ret
  cases oe with
  | none =>
    cases h
    exact wpAny_pure (ret _ s.heap s.toks KH.rfl G .none)
  | some e =>
    obtain ⟨i, rfl, he⟩ := h
    exact he μ A s _ E G p rm fun v h' tk kh G' r => by cases r; exact ret _ h' tk kh G' (.int _ _)

theorem ev_slice {value : Expr} {lo hi st : Option Expr} {a b c : Option Int} {p pos : Pos} {sd : D} (hsd : sd = .list ds ∨ sd = .scr ds) (hv : Ev C k env ρ X value sd) (h1 : EvO C k env ρ X lo a) (h2 : EvO C k env ρ X hi b) (h3 : EvO C k env ρ X st c) (hc : c ≠ some 0) (hz : ds.length ≤ 2 ^ 20) :
    Ev C k env ρ X (.Subscript value (.Slice lo hi st p) pos) (.list (pickD ds a b c)) := by
  intro μ A s Q E G pp rm ret
  refine Subscript_ (hv μ A s _ E G pp rm fun v₁ h₁ tk₁ k₁ G₁ r₁ => ?_)
  rw [PySem.arm_eval_Slice]
  have p1 := Cn.stable _ _ _ G k₁ G₁ pp
  refine wpAny_bind (evO_run h1 μ A _ _ E G₁ p1 rm fun va h₂ tk₂ k₂ G₂ r₂ => ?_)
  have p2 := Cn.stable _ _ _ G₁ k₂ G₂ p1
  refine wpAny_bind (wpAny_holding (evO_run h2 μ A _ _ E G₂ p2 rm fun vb h₃ tk₃ k₃ G₃ r₃ => ?_))
  have p3 := Cn.stable _ _ _ G₂ k₃ G₃ p2
  refine wpAny_bind (wpAny_holding (evO_run h3 μ A _ _ E G₃ p3 rm fun vc h₄ tk₄ k₄ G₄ r₄ => ?_))
  refine wpAny_newObj_type ?_
  have kh := (k₂.trans k₃).trans k₄
  have r1' := r₁.mono (KH.hid G₁.sub kh)
  have hl : ∃ (w : Addr) (vs : Array Value), v₁ = .ref w ∧ h₄.IsList w vs ∧ RepL C (hideAll h₄ μ) vs.toList ds := by
    rcases hsd with rfl | rfl
    · cases r1' with
      | list i r => exact ⟨_, _, rfl, i.isList.at fun o e => hid_ext μ h₄ _ o e, r⟩
    · cases r1' with
      | scr i r => exact ⟨_, _, rfl, i.at fun o e => hid_ext μ h₄ _ o e, r⟩
  obtain ⟨w, vs, rfl, hl, hr⟩ := hl
  have hlen := repL_length hr
  rw [Array.length_toList] at hlen
  have ops : ∃ ops, subscripted (.Slice lo hi st p) false (.ref w) (.ref h₄.objs.size) = operate ops (getItem (.ref w) (.ref h₄.objs.size)) := by
    cases st with
    | none => exact ⟨_, rfl⟩
    | some e => exact ⟨_, rfl⟩
  obtain ⟨ops, hops⟩ := ops
  have x5 : Ext h₄ (h₄.push { cls := .type "slice", data := .fields #[va, vb, vc] }) := push_ext _ _
  refine tail_any (Heap.IsList.typeIs (s := { s with heap := h₄.push { cls := .type "slice", data := .fields #[va, vb, vc] }, toks := tk₄ }) (hl.push _)) list_getitem_lookup
    (wpAny_getItem_list_slice (hl.push _) (Heap.IsSliceOf.new ..) r₂ r₃ r₄ hc ?_ (by rw [hlen]; exact Nat.le_trans hz (by decide))) hops
  refine new_ret (s := { s with heap := h₄.push { cls := .type "slice", data := .fields #[va, vb, vc] }, toks := tk₄ }) (tk := tk₄) (G₄.keep x5) (fun v h' tk kh' G' r => ret v h' tk (((k₁.trans kh).trans x5.kh).trans kh') G' r) fun q1 q2 => .list ⟨_, q1⟩ ?_
  have := (hr.mono ((KH.hid G₄.sub x5.kh).trans q2)).pick (sliceRange (sliceBounds a b c vs.size).1 (sliceBounds a b c vs.size).2.1 (sliceBounds a b c vs.size).2.2)
  generalize hideAll _ μ = g at this ⊢
  unfold slicePick pickD
  rw [← hlen]
  simpa using this
end
end Mine

open PySem PySem.W PyProof.Rows PySem.Spec PySem.Calls
set_option Elab.async false
set_option maxRecDepth 100000
set_option linter.unusedVariables false
namespace Mine
theorem codeAmong_snoc_inv {pos p : Pos} {c v : Value} (l : List Value) (h : TriplesOk l) (hn : codeAmong p (l ++ [rawInt pos.line, rawInt pos.col, c]) = some v) : codeAmong p l = some v ∨ v = c := by
  fun_induction TriplesOk l with
  | case1 =>
    simp only [List.nil_append, rawInt, codeAmong] at hn
    split at hn
    · cases hn; exact .inr rfl
    · cases hn
  | case2 a t b u x rest ih =>
    simp only [List.cons_append, codeAmong] at hn ⊢
    split at hn
    · rename_i hc; rw [if_pos hc]; exact .inl hn
    · rename_i hc; rw [if_neg hc]; exact ih h hn
  | case3 l h1 h2 => exact h.elim

section
variable {C : Cx} {k : Nat} {A : Around} {env : Env} {cs : List (Str × Addr)} {ρ ρ' : List (Str × D)} {own own' : List (Addr × OD)} {b b' : Heap} {f s s₀ : Shared} {μ μ₀ μ₁ W : List Addr} {d d₁ d₂ : D} {h' : Heap} {tk : Nat} {X : SA C}
  {rest : List Stmt} {name qual : Str} {params : Arguments} {scope : Scope} {clos : List (Str × Addr)} {pos : Pos} {fl : Nat}

theorem Good.builtinsAt {P : Addr} {h : Heap} (G : Good C μ h) (hP : P ∈ TB) : h.BuiltinsAt C.mg P ∧ mainGlobals ≠ P := by
  have hPμ := G.sub P hP
  have hgs := G.T.g
  obtain ⟨bm, ob, b1, b2, b3, b4, b5, b6⟩ := G.T.bmain
  have hgP : mainGlobals ≠ P := fun q => by
    obtain ⟨o, es, ep, e, hd, _⟩ := hgs
    exact (hid_inv e).2 (q ▸ hPμ)
  have hbP : bm ≠ P := fun q => (hid_inv b3).2 (q ▸ hPμ)
  have hbG : bm ≠ mainGlobals := fun q => by
    obtain ⟨o, es, ep, e, hd, _⟩ := hgs
    rw [q, e] at b3; cases b3; rw [hd] at b6; cases b6
  exact ⟨⟨bm, ob, b1, b2, hbG, hbP, hid_ext _ _ _ _ b3, b4, b5, b6⟩, hgP⟩

/-- a function is made, its code new in the table -/
theorem made_new {P c' : Addr} {q : Addr × Addr × Str} {ps : Array Value} {h : Heap} {Q : Value → Shared → Prop} {body : FuncBody} {doc pm ct : Value} (hq : q ∈ tabq) (G : Good C μ s.heap) (hx : Heap.ExtBut q.2.1 s.heap h) (hge : s.heap.objs.size ≤ c') (hlt : c' < h.objs.size) (hrec : h.CodeRec (.ref c') q.2.2)
    (ht : TriplesOk ps.toList) (hinv : ∀ pos c, codeAmong pos ps.toList = some c → (hideAll s.heap μ).CodeRec c q.2.2)
    (htb : h.get? q.2.1 = some (tabObj (ps ++ #[rawInt pos.line, rawInt pos.col, .ref c'])))
    (ret : ∀ v h' tk, KH s.heap h' → Good C μ h' → Dt C (.fn name q.2.2 params body scope clos) v μ h' → Q v { s with heap := h', toks := tk }) :
    Q (.ref h.objs.size) { s with heap := h.push (fnObj (mkFd name q.2.2 params body scope clos doc pm (.ref c') ct)), toks := tk } := by
  have hq1 := tabq_tb q hq
  have kh : KH s.heap (h.push (fnObj (mkFd name q.2.2 params body scope clos doc pm (.ref c') ct))) := fun b o n e => Heap.get?_push_of_some _ (hx b o (fun z => n (z ▸ hq1)) e)
  have gx := KH.hid G.sub kh
  have cμ : ∀ y, s.heap.objs.size ≤ y → y ∉ μ := fun y hy hm => by
    obtain ⟨o, e⟩ := G.low y hm
    exact absurd (Heap.lt_size e) (Nat.not_lt.mpr hy)
  have hrec' : (hideAll (h.push (fnObj (mkFd name q.2.2 params body scope clos doc pm (.ref c') ct))) μ).CodeRec (.ref c') q.2.2 := by
    obtain ⟨c₂, o, vs, t, e1, e2, e3, e4⟩ := hrec
    cases e1
    exact ⟨_, o, vs, t, rfl, hid_get (Heap.get?_push_of_some _ e2) (cμ _ hge), e3, e4⟩
  refine ret _ _ _ kh (G.on kh fun q' hq' => ?_) (.fn (hid_get (Heap.get?_push_size _ rfl) (cμ _ (Nat.le_trans hge (Nat.le_of_lt hlt)))) hrec')
  by_cases z : q'.2.1 = q.2.1
  · have hqq : q' = q := by
      have : ∀ x ∈ tabq, ∀ y ∈ tabq, x.2.1 = y.2.1 → x = y := by decide
      exact this q' hq' q hq z
    subst hqq
    refine ⟨_, Heap.get?_push_of_some _ htb, ?_, fun p c e => ?_⟩
    · rw [Array.toList_append]; exact TriplesOk_snoc _ _ _ _ ht
    · rw [Array.toList_append] at e
      rcases codeAmong_snoc_inv _ ht e with e | rfl
      · exact (hinv p c e).keeps gx
      · exact hrec'
  · exact (G.tabs q' hq').keep gx fun o e => Heap.get?_push_of_some _ (hx _ o z e)

theorem made_hit {q : Str} {c' : Value} {h : Heap} {Q : Value → Shared → Prop} {body : FuncBody} {doc pm ct : Value} (G : Good C μ s.heap) (hx : Ext s.heap h) (hge : s.heap.objs.size ≤ h.objs.size) (hrec : (hideAll s.heap μ).CodeRec c' q)
    (ret : ∀ v h' tk, KH s.heap h' → Good C μ h' → Dt C (.fn name q params body scope clos) v μ h' → Q v { s with heap := h', toks := tk }) :
    Q (.ref h.objs.size) { s with heap := h.push (fnObj (mkFd name q params body scope clos doc pm c' ct)), toks := tk } := by
  have ext : Ext s.heap (h.push (fnObj (mkFd name q params body scope clos doc pm c' ct))) := hx.trans (push_ext _ _)
  have gx := KH.hid G.sub ext.kh
  have cμ : h.objs.size ∉ μ := fun hm => by
    obtain ⟨o, e⟩ := G.low _ hm
    exact absurd (Heap.lt_size e) (Nat.not_lt.mpr hge)
  exact ret _ _ _ ext.kh (G.keep ext) (.fn (hid_get (Heap.get?_push_size _ rfl) cμ) (hrec.keeps gx))

theorem ok_lambda {P : Asrt} {body : Expr} (q : Addr × Addr × Str) (hq : q ∈ tabq) (hE : EnvF env) (hcode : env.code = .ref q.1) (hcl : closureFor scope env = pure clos) :
    Ok C k P (makeFunction name q.2.2 params (.expr body) scope env [] [] [] pos fl) (Dt C (.fn name q.2.2 params (.expr body) scope clos)) := by
  intro μ A s Q E G p rm ret
  obtain ⟨ps, hP, ht, hinv⟩ := G.tabs q hq
  obtain ⟨hB, hgP⟩ := G.builtinsAt (tabq_tb q hq)
  have hc := (G.codes q hq).keeps (hid_ext _ _)
  have hg := G.T.g.keeps (hid_ext _ _)
  cases hf : codeAmong pos ps.toList with
  | none =>
    refine kla_makeFunction hcl hE.glob hg hcode hc hP ht hf hgP hB fun c' ctv h' tk hx hge hlt hrec htb => ?_
    exact made_new (P := 0) hq G hx hge hlt hrec ht hinv htb ret
  | some cv =>
    refine kla_makeFunctionHit hcl hE.glob hg hcode hc hP ht hf hB fun ctv h' tk hx hge => ?_
    exact made_hit G hx hge (hinv _ _ hf) ret
theorem ok_def {P : Asrt} {body : List Stmt} (q : Addr × Addr × Str) (hq : q ∈ tabq) (hE : EnvF env) (hcode : env.code = .ref q.1) (hcl : closureFor scope env = pure clos) :
    Ok C k P (makeFunction name q.2.2 params (.stmts body) scope env [] [] [] pos fl) (Dt C (.fn name q.2.2 params (.stmts body) scope clos)) := by
  intro μ A s Q E G p rm ret
  obtain ⟨ps, hP, ht, hinv⟩ := G.tabs q hq
  obtain ⟨hB, hgP⟩ := G.builtinsAt (tabq_tb q hq)
  have hc := (G.codes q hq).keeps (hid_ext _ _)
  have hg := G.T.g.keeps (hid_ext _ _)
  cases hf : codeAmong pos ps.toList with
  | none =>
    refine makeFunction_K hcl hE.glob hg hcode hc hP ht hf hgP hB fun c' ctv doc h' tk hx hge hlt hrec htb => ?_
    exact made_new (P := 0) hq G hx hge hlt hrec ht hinv htb ret
  | some cv =>
    refine makeFunction_hit hcl hE.glob hg hcode hc hP ht hf hB fun ctv doc h' tk hx hge => ?_
    exact made_hit G hx hge (hinv _ _ hf) ret

theorem ev_lambda {body : Expr} (q : Addr × Addr × Str) (hq : q ∈ tabq) (hE : EnvF env) (hcode : env.code = .ref q.1) (hqual : env.qual ++ "<lambda>" = q.2.2) (hcl : closureFor scope env = pure clos) (hdef : defaultsOf params env = ([], []) := by rfl) :
    Ev C k env ρ X (.Lambda params body scope pos) (.fn "<lambda>" q.2.2 params (.expr body) scope clos) := by
  intro μ A s Q E G p rm ret
  refine kla_eval hdef ?_
  rw [hqual]
  exact ok_lambda (P := fun _ _ => True) q hq hE hcode hcl μ A s Q E G trivial rm ret

theorem x_def {body : List Stmt} {Q : Flow → Shared → Prop} {E : Value → Shared → Prop} (q : Addr × Addr × Str) (hq : q ∈ tabq) (F : Fm C b f μ₀ env cs ρ own s) (rm : Room k A) (hcode : env.code = .ref q.1) (hqual : qualnameIn env name name = q.2.2) (hcl : closureFor scope env = pure clos) (hx : Kd env cs name)
    (cont : ∀ s', Fm C b f μ₀ env cs ((name, .fn name q.2.2 params (.stmts body) scope clos) :: ρ) own s' → wpAny (model C.prog C.w) A (execs rest env) Q E s')
    (hd0 : params.defaults = [] := by rfl) (hk0 : params.kw_defaults = [] := by rfl) (ha : annTrees params none env = [] := by rfl) :
    wpAny (model C.prog C.w) A (execs (.FunctionDef name params body [] none [] scope none name pos :: rest) env) Q E s := by
  refine x_cons (nestDef_K hd0 hk0 ha ?_)
  rw [hqual]
  refine ok_def (P := fun _ _ => True) q hq F.envF hcode hcl _ A s _ E F.co.good trivial rm fun v h' tk kh G r => ?_
  exact (F.pure kh G).store hx r fun h'' tk' F'' => cont _ F''
end
end Mine

open PySem PySem.W PyProof.Rows PySem.Spec PySem.Calls
set_option Elab.async false
set_option maxRecDepth 100000
set_option linter.unusedVariables false
namespace Mine

/-- the environment of a call whose scope has no cells of its own -/
noncomputable def callEnvX (fd : FuncData) (L a : Addr) : Env := newEnv fd.scope L fd.globals fd.closure (fd.qualname ++ ".<locals>.") (some a) fd.code none fd.builtins

/-- what a closure's cells hold -/
noncomputable def ClAt (C : Cx) (clos : List (Str × Addr)) (ρf : List (Str × D)) : Asrt := fun μ h =>
  ∀ x d, ρf.lookup x = some d → ∃ c v, clos.lookup x = some c ∧ c ∉ TB ∧ h.IsCell c (some v) ∧ Rep C (hideAll h μ) v d

section
variable {C : Cx} {k : Nat} {A : Around} {env : Env} {cs clos : List (Str × Addr)} {ρ ρ' ρf : List (Str × D)} {own own' : List (Addr × OD)} {b b' : Heap} {f s s' s₀ : Shared} {μ μ' μ₀ μ₁ W : List Addr} {d d₁ d₂ : D} {ds : List D} {h' : Heap} {tk : Nat} {X : SA C} {E : Value → Shared → Prop}
  {rest : List Stmt}

theorem ClAt.stable : Stable C (ClAt C clos ρf) := fun μ h h' G kh G' r x d e => by
  obtain ⟨c, v, h1, h2, ⟨o, h3, h4⟩, h5⟩ := r x d e
  exact ⟨c, v, h1, h2, ⟨o, kh c o h2 h3, h4⟩, h5.mono (KH.hid G.sub kh)⟩
theorem clAt_nil {h : Heap} : ClAt C clos [] μ h := fun x d e => nomatch e

/-- the names that a function reads from around it, as its maker or itself sees them -/
noncomputable def ClOk (env : Env) (clos : List (Str × Addr)) : List (Str × D) → Prop
  | [] => True
  | p :: r => ((env.kindOf p.1 = some .cell ∨ env.kindOf p.1 = some .free) ∧ env.cells.lookup p.1 = clos.lookup p.1) ∧ ClOk env clos r
theorem ClOk.mem : ∀ {l : List (Str × D)}, ClOk env clos l → ∀ p ∈ l, (env.kindOf p.1 = some .cell ∨ env.kindOf p.1 = some .free) ∧ env.cells.lookup p.1 = clos.lookup p.1
  | q :: r, h, p, hp => by
    rcases List.mem_cons.mp hp with rfl | hp
    · exact h.1
    · exact ClOk.mem h.2 p hp
theorem Sees.clAt {h : Heap} (hs : Sees C env ρ μ h) (hl : LookAll ρ ρf) (hc : ClOk env clos ρf) : ClAt C clos ρf μ h := fun x d e => by
  obtain ⟨v, r1, _, r3⟩ := hs x d (weak_all hl x d e)
  obtain ⟨h1, h2⟩ := hc.mem _ (mem_of_lookup e)
  obtain ⟨c, c1, c2, c3⟩ := r3 h1
  exact ⟨c, v, h2 ▸ c1, c2, c3, r1⟩

theorem OwnAt.notCell {g h : Heap} {a : Addr} {ov : Option Value} : ∀ {od : OD}, OwnAt C g h a od → ¬ h.IsCell a ov
  | .list ds, ⟨vs, ⟨n, p⟩, r⟩, ⟨o, c1, c2⟩ => by rw [p] at c1; cases c1; cases c2
  | .dict kvs, ⟨l, ⟨o', es, ep, p, _, q, _⟩, n, r⟩, ⟨o, c1, c2⟩ => by rw [p] at c1; cases c1; rw [q] at c2; cases c2
  | .seq ds, ⟨vs, ⟨o', p, _, n, q⟩, r⟩, ⟨o, c1, c2⟩ => by rw [p] at c1; cases c1; rw [q] at c2; cases c2

/-- the frame of a call that has been entered: no cells of its own, a closure, and what the caller lends it -/
theorem fm_start2 {args : List (Str × Value × D)} {h₁ : Heap} (G : Good C μ s.heap) (envF : EnvF env) (hL : env.locals = s.heap.objs.size)
    (hmem : ∀ y, y ∈ μ' ↔ y ∈ μ ∧ y ∉ own.map (·.1)) (hown : ∀ p ∈ own, p.1 ∈ μ ∧ p.1 ∉ TB ∧ OwnAt C (hideAll s.heap μ) s.heap p.1 p.2) (hon : (own.map (·.1)).Nodup)
    (hns : h₁.Ns s.heap.objs.size (fun x => (args.map fun x => (x.1, x.2.1)).reverse.lookup x))
    (hsb : Heap.SameBut s.heap.objs.size (s.heap.push { cls := .type "frame", data := .dict #[] }) h₁)
    (hnd : (args.map (·.1)).Nodup) (hkind : ∀ x ∈ args, env.kindOf x.1 = some .local) (hargs : ∀ x ∈ args, Rep C (hideAll s.heap μ) x.2.1 x.2.2)
    (hcl : ClAt C env.cells ρf μ s.heap) (hfree : ∀ p ∈ ρf, env.kindOf p.1 = some .free ∧ (p.1 == ("__classdict__" : Str)) = false) :
    Fm C (hideAll s.heap (own.map (·.1) ++ TB)) s μ' env [] ((args.map fun x => (x.1, x.2.2)) ++ ρf) own { s with heap := h₁, toks := tk } := by
  have hW : ∀ y, y ∈ Wl env [] own ↔ y = s.heap.objs.size ∨ y ∈ own.map (·.1) := fun y => by
    unfold Wl; rw [hL]; simp
  have kx : Ext s.heap h₁ := fun y o e => by
    have : y ≠ s.heap.objs.size := Nat.ne_of_lt (Heap.lt_size e)
    exact (hsb.2 y this).trans (Heap.get?_push_of_some _ e)
  have hfresh : s.heap.get? s.heap.objs.size = none := fresh_size _
  have hlow : ∀ y ∈ μ, y ≠ s.heap.objs.size := fun y hy q => by
    obtain ⟨o, e⟩ := G.low y hy
    rw [q, hfresh] at e; cases e
  have gx : Ext (hideAll s.heap μ) (hideAll h₁ (Wl env [] own ++ μ')) := hid_mono fun y o n e => by
    refine ⟨kx y o e, fun hm => ?_⟩
    rcases List.mem_append.mp hm with hm | hm
    · rcases (hW y).mp hm with q | hm
      · rw [q, hfresh] at e; cases e
      · obtain ⟨p, hp, rfl⟩ := List.mem_map.mp hm
        exact n (hown p hp).1
    · exact n ((hmem y).mp hm).1
  have hLtb : s.heap.objs.size ∉ TB := fun hm => hlow _ (G.sub _ hm) rfl
  have htb : ∀ P ∈ TB, P ∈ μ' := fun P hP => (hmem P).mpr ⟨G.sub P hP, fun hm => by
    obtain ⟨p, hp, q⟩ := List.mem_map.mp hm
    exact (hown p hp).2.1 (q ▸ hP)⟩
  have hnb : ((args.map fun x => (x.1, x.2.1)).map (·.1)).Nodup := by rw [List.map_map]; exact hnd
  have look : ∀ y d', ((args.map fun x => (x.1, x.2.2)) ++ ρf).lookup y = some d' → (∃ z ∈ args, z.1 = y ∧ z.2.2 = d') ∨ (ρf.lookup y = some d') := fun y d' e => by
    by_cases hy : y ∈ (args.map fun x => (x.1, x.2.2)).map (·.1)
    · left
      obtain ⟨z, hz, q⟩ := List.mem_map.mp hy
      obtain ⟨w, hw, rfl⟩ := List.mem_map.mp hz
      have : ((args.map fun x => (x.1, x.2.2)) ++ ρf).lookup y = some w.2.2 := lookup_app_some (lookup_of_mem (by rw [List.map_map]; exact hnd) (q ▸ hz))
      rw [this] at e; cases e
      exact ⟨w, hw, q, rfl⟩
    · right
      rwa [lookup_app hy] at e
  have hbind : ∀ z ∈ args, (args.map fun x => (x.1, x.2.1)).reverse.lookup z.1 = some z.2.1 := fun z hz => by
    refine lookup_of_mem ?_ (List.mem_reverse.mpr (List.mem_map.mpr ⟨z, hz, rfl⟩))
    rw [List.map_reverse]
    exact List.pairwise_reverse.mpr (hnb.imp Ne.symm)
  refine ⟨⟨⟨h₁, tk, rfl⟩, ?_, htb, fun y o e => kx y o (of_hideAll _ e), fun P hP => hideAll_none _ (List.mem_append_right _ hP), ?_, fun a ha => ?_, fun a ha hm => ?_⟩, envF, ⟨_, by rw [hL]; exact hns, fun y d' e hk => ?_⟩, fun y c e => (nomatch e), fun y d' e => ?_, fun p hp => ?_⟩
  · refine G.turn gx (fun P hP => List.mem_append_right _ (htb P hP)) (fun y hy => ?_) fun P hP o e => kx P o e
    rcases List.mem_append.mp hy with hy | hy
    · rcases (hW y).mp hy with rfl | hy
      · obtain ⟨o, _, _, e, _⟩ := hns; exact ⟨o, e⟩
      · obtain ⟨p, hp, rfl⟩ := List.mem_map.mp hy
        obtain ⟨o, e⟩ := G.low _ (hown p hp).1
        exact ⟨o, kx _ o e⟩
    · obtain ⟨o, e⟩ := G.low y ((hmem y).mp hy).1
      exact ⟨o, kx y o e⟩
  · unfold Wl
    rw [hL, List.map_nil, List.nil_append, List.nodup_cons]
    refine ⟨fun hm => ?_, hon⟩
    obtain ⟨p, hp, q⟩ := List.mem_map.mp hm
    exact hlow _ (hown p hp).1 q
  · rcases (hW a).mp ha with rfl | ha
    · refine ⟨?_, hLtb⟩
      cases q : (hideAll s.heap (own.map (·.1) ++ TB)).get? s.heap.objs.size with
      | none => rfl
      | some o => have z := of_hideAll _ q; rw [hfresh] at z; cases z
    · refine ⟨hideAll_none _ (List.mem_append_left _ ha), ?_⟩
      obtain ⟨p, hp, rfl⟩ := List.mem_map.mp ha
      exact (hown p hp).2.1
  · obtain ⟨m1, m2⟩ := (hmem a).mp hm
    rcases (hW a).mp ha with rfl | ha
    · exact hlow _ m1 rfl
    · exact m2 ha
  · rcases look y d' e with ⟨z, hz, rfl, rfl⟩ | e
    · exact ⟨_, hbind z hz, (hargs z hz).mono gx⟩
    · have := (hfree _ (mem_of_lookup e)).1
      rw [this] at hk; cases hk
  · rcases look y d' e with ⟨z, hz, rfl, rfl⟩ | e
    · exact .inl (hkind z hz)
    · obtain ⟨f1, f2⟩ := hfree _ (mem_of_lookup e)
      obtain ⟨c, v, c1, c2, c3, c4⟩ := hcl y d' e
      refine .inr (.inr ⟨.inl f1, f2, c, v, c1, fun hm => ?_, c2, c3.keeps kx, c4.mono gx⟩)
      rcases (hW c).mp hm with rfl | hm
      · obtain ⟨o, q, _⟩ := c3; rw [hfresh] at q; cases q
      · obtain ⟨p, hp, q⟩ := List.mem_map.mp hm
        exact (hown p hp).2.2.notCell (q ▸ c3)
  · exact (hown p hp).2.2.mono gx fun o e => kx _ o e

/-- back from a call that was lent the frame's own objects -/
theorem Fm.back {env' : Env} (F : Fm C b f μ₀ env cs ρ own s) (hmem : ∀ y, y ∈ μ' ↔ y ∈ Wl env cs own ++ μ₀ ∧ y ∉ own.map (·.1)) (F' : Fm C (hideAll s.heap (own.map (·.1) ++ TB)) s μ' env' [] ρ' own' s') (hO : own'.map (·.1) = own.map (·.1)) : Fm C b f μ₀ env cs ρ own' s' := by
  have hW : Wl env cs own' = Wl env cs own := by unfold Wl; rw [hO]
  have hsub : ∀ y ∈ Wl env cs own' ++ μ₀, y ∈ Wl env' [] own' ++ μ' := fun y hy => by
    by_cases ho : y ∈ own.map (·.1)
    · exact List.mem_append_left _ (List.mem_cons_of_mem _ (List.mem_append_right _ (hO ▸ ho)))
    · exact List.mem_append_right _ ((hmem y).mpr ⟨hW ▸ hy, ho⟩)
  have kept : ∀ y o, y ∉ own.map (·.1) → y ∉ TB → s.heap.get? y = some o → s'.heap.get? y = some o := fun y o n1 n2 e => F'.co.keep y o (hid_get e fun hm => (List.mem_append.mp hm).elim n1 n2)
  have hoW : ∀ y ∈ own.map (·.1), y ∈ Wl env cs own := fun y hy => List.mem_cons_of_mem _ (List.mem_append_right _ hy)
  have gx : Ext (hideAll s.heap (Wl env cs own ++ μ₀)) (hideAll s'.heap (Wl env cs own' ++ μ₀)) := hid_mono fun y o n e => ⟨kept y o (fun hm => n (List.mem_append_left _ (hoW y hm))) (fun hm => n (List.mem_append_right _ (F.co.tb y hm))) e, by rw [hW]; exact n⟩
  have hnd := F.co.nodup
  have hLo : env.locals ∉ own.map (·.1) := fun hm => (List.nodup_cons.mp hnd).1 (List.mem_append_right _ hm)
  have hco : ∀ x c, cs.lookup x = some c → c ∉ own.map (·.1) := fun x c e hm => (List.nodup_append.mp (List.nodup_cons.mp hnd).2).2.2 c (List.mem_map.mpr ⟨(x, c), mem_of_lookup e, rfl⟩) c hm rfl
  obtain ⟨h1, t1, e1⟩ := F'.co.same
  obtain ⟨h2, t2, e2⟩ := F.co.same
  refine ⟨⟨⟨h1, t1, by rw [e1, e2]⟩, F'.co.good.less hsub fun P hP => List.mem_append_right _ (F.co.tb P hP), F.co.tb, fun y o e => ?_, F.co.btb, hW ▸ F.co.nodup, fun a ha => F.co.priv a (hW ▸ ha), fun a ha => F.co.disj a (hW ▸ ha)⟩, F.envF, ?_, fun x c e => ?_, fun x d e => ?_, fun p hp => ?_⟩
  · refine kept y o (fun hm => ?_) (fun hm => ?_) (F.co.keep y o e)
    · rw [(F.co.priv y (hoW y hm)).1] at e; cases e
    · rw [F.co.btb y hm] at e; cases e
  · obtain ⟨m, n1, n2⟩ := F.ns
    exact ⟨m, n1.at' fun o e => kept _ o hLo (F.co.priv _ mem_Wl_L).2 e, fun x d e hk => let ⟨v, q1, q2⟩ := n2 x d e hk; ⟨v, q1, q2.mono gx⟩⟩
  · obtain ⟨q1, ov, ⟨o, c1, c2⟩, q2⟩ := F.cell x c e
    exact ⟨q1, ov, ⟨o, kept c o (hco x c e) (F.co.priv _ (mem_Wl_c e)).2 c1, c2⟩, fun d ed hk => let ⟨v, q3, q4⟩ := q2 d ed hk; ⟨v, q3, q4.mono gx⟩⟩
  · rcases F.kinds x d e with h | h | ⟨h1, h2, c, v, h3, h4, h5, h6, h7⟩
    · exact .inl h
    · exact .inr (.inl h)
    · exact .inr (.inr ⟨h1, h2, c, v, h3, hW ▸ h4, h5, let ⟨o, c1, c2⟩ := h6; ⟨o, kept c o (fun hm => h4 (hoW c hm)) h5 c1, c2⟩, h7.mono gx⟩)
  · exact (F'.ownd p hp).mono (hid_less hsub) fun o e => e

/-- what is needed to enter a function -/
structure FnOk (C : Cx) (μ : List Addr) (s : Shared) (a : Addr) (fd : FuncData) (args : List (Str × Value × D)) (vals : List Value) (kw : List (Str × Value)) (ρf : List (Str × D)) : Prop where
  obj : ∃ o, (hideAll s.heap μ).get? a = some o ∧ o.data = .func fd
  code : (hideAll s.heap μ).CodeRec fd.code fd.qualname
  bind : BindsTo s fd ⟨vals, kw⟩ (args.map fun x => (x.1, x.2.1))
  nd : (args.map (·.1)).Nodup
  kinds : ∀ x ∈ args, fd.scope.names.lookup x.1 = some .local
  nocell : ∀ x ∈ fd.scope.names, x.2 ≠ .cell
  glob : fd.globals = mainGlobals
  bi : fd.builtins = builtinsNs
  co : fd.scope.isCoroutine = false
  gen : fd.scope.isGenerator = false
  kind : fd.scope.kind = .function
  args : ∀ x ∈ args, Rep C (hideAll s.heap μ) x.2.1 x.2.2
  cl : ClAt C fd.closure ρf μ s.heap
  free : ∀ p ∈ ρf, fd.scope.names.lookup p.1 = some .free ∧ (p.1 == ("__classdict__" : Str)) = false

theorem enterX {a : Addr} {fd : FuncData} {args : List (Str × Value × D)} {vals : List Value} {kw : List (Str × Value)} {body : List Stmt} {Q : Value → Shared → Prop} {R : Value → Shared → Prop}
    (G : Good C μ s.heap) (rm : Room (k + 1) A) (fo : FnOk C μ s a fd args vals kw ρf) (hbody : fd.body = .stmts body)
    (hmem : ∀ y, y ∈ μ' ↔ y ∈ μ ∧ y ∉ own.map (·.1)) (hown : ∀ p ∈ own, p.1 ∈ μ ∧ p.1 ∉ TB ∧ OwnAt C (hideAll s.heap μ) s.heap p.1 p.2) (hon : (own.map (·.1)).Nodup)
    (h : ∀ L s₁ A' E', Fm C (hideAll s.heap (own.map (·.1) ++ TB)) s μ' (callEnvX fd L a) [] ((args.map fun x => (x.1, x.2.2)) ++ ρf) own s₁ → Room k A' →
      wpAny (model C.prog C.w) A' (execs body (callEnvX fd L a)) (fun fl s' => R (match fl with | .ret v => v | _ => .none) s') E' s₁)
    (ret : ∀ v s', R v s' → Q v s') : wpAny (model C.prog C.w) A (call (.ref a) vals kw) Q E s := by
  obtain ⟨o, ho, hd⟩ := fo.obj
  have kx : Ext (hideAll s.heap μ) s.heap := hid_ext _ _
  refine wpAny_call (codeAny_call_function rm.lim (kx _ _ ho) hd fo.co fo.gen hbody (fo.code.keeps kx) (fo.bind _ _ _ _ ?_))
  refine wpAny_newFunctionEnv fo.nocell (fun x hx => by
    obtain ⟨z, hz, rfl⟩ := List.mem_map.mp hx
    exact fo.kinds z hz) (fun h₁ hns hsb => ⟨((G.T.nolimit).keeps kx).fresh _ hsb, ?_⟩) fo.kind
  refine codeAny_func ?_
  have F := fm_start2 (env := callEnvX fd s.heap.objs.size a) (tk := s.toks + (args.map fun x => (x.1, x.2.1)).length) (ρf := ρf) G ⟨fo.kind, fo.glob, fo.bi⟩ rfl hmem hown hon hns hsb fo.nd fo.kinds fo.args fo.cl fo.free
  refine wpAny_mono (h _ _ _ _ F rm.deeper) (fun fl s' hr => ?_) fun _ _ e => e
  exact ret _ _ hr

/-- a pure call -/
theorem enterP {a : Addr} {fd : FuncData} {args : List (Str × Value × D)} {vals : List Value} {kw : List (Str × Value)} {body : List Stmt} {Q : Value → Shared → Prop}
    (G : Good C μ s.heap) (rm : Room (k + 1) A) (fo : FnOk C μ s a fd args vals kw ρf) (hbody : fd.body = .stmts body)
    (h : ∀ L s₁ A' E', Fm C (hideAll s.heap TB) s μ (callEnvX fd L a) [] ((args.map fun x => (x.1, x.2.2)) ++ ρf) [] s₁ → Room k A' →
      wpAny (model C.prog C.w) A' (execs body (callEnvX fd L a)) (Ret C s μ d) E' s₁)
    (ret : ∀ v h' tk, KH s.heap h' → Good C μ h' → Dt C d v μ h' → Q v { s with heap := h', toks := tk }) : wpAny (model C.prog C.w) A (call (.ref a) vals kw) Q E s := by
  refine enterX (own := []) (μ' := μ) (R := fun v s' => Ret C s μ d (.ret v) s') G rm fo hbody (fun y => by simp) (fun p hp => nomatch hp) (by simp) (fun L s₁ A' E' F rm' => ?_) fun v s' hr => ?_
  · refine wpAny_mono (h L s₁ A' E' F rm') (fun fl s' hr => ?_) fun _ _ e => e
    obtain ⟨v, h', tk', e1, e2, r1, r2, r3⟩ := hr
    cases fl <;> exact ⟨v, h', tk', e1, e2, r1, r2, r3⟩
  · obtain ⟨v, h', tk', e1, rfl, r1, r2, r3⟩ := hr
    cases e1
    exact ret _ h' tk' r1 r2 r3

/-- a pure call of a lambda -/
theorem enterE {a : Addr} {fd : FuncData} {args : List (Str × Value × D)} {vals : List Value} {kw : List (Str × Value)} {body : Expr} {Q : Value → Shared → Prop}
    (G : Good C μ s.heap) (rm : Room (k + 1) A) (fo : FnOk C μ s a fd args vals kw ρf) (hbody : fd.body = .expr body)
    (h : ∀ L X, Ev C k (callEnvX fd L a) ((args.map fun x => (x.1, x.2.2)) ++ ρf) X body d)
    (ret : ∀ v h' tk, KH s.heap h' → Good C μ h' → Dt C d v μ h' → Q v { s with heap := h', toks := tk }) : wpAny (model C.prog C.w) A (call (.ref a) vals kw) Q E s := by
  obtain ⟨o, ho, hd⟩ := fo.obj
  have kx : Ext (hideAll s.heap μ) s.heap := hid_ext _ _
  refine wpAny_call (kla_callFunE rm.lim (kx _ _ ho) hd fo.co fo.gen hbody (fo.code.keeps kx) (fo.bind _ _ _ _ ?_))
  refine wpAny_newFunctionEnv fo.nocell (fun x hx => by
    obtain ⟨z, hz, rfl⟩ := List.mem_map.mp hx
    exact fo.kinds z hz) (fun h₁ hns hsb => ⟨((G.T.nolimit).keeps kx).fresh _ hsb, ?_⟩) fo.kind
  refine kla_codeExpr ?_
  have F := fm_start2 (own := []) (μ' := μ) (env := callEnvX fd s.heap.objs.size a) (tk := s.toks + (args.map fun x => (x.1, x.2.1)).length) (ρf := ρf) G ⟨fo.kind, fo.glob, fo.bi⟩ rfl (fun y => by simp) (fun p hp => nomatch hp) (by simp) hns hsb fo.nd fo.kinds fo.args fo.cl fo.free
  refine F.ev rm.deeper (h _ _) fun v s' F' _ _ r => ?_
  obtain ⟨v', h', tk', e1, e2, r1, r2, r3⟩ := F'.ret r
  cases e1
  subst e2
  exact ret _ h' tk' r1 r2 r3

/-- a call that is lent the frame's own objects and hands back nothing -/
theorem enterO {a : Addr} {fd : FuncData} {args : List (Str × Value × D)} {vals : List Value} {kw : List (Str × Value)} {body : List Stmt} {Q : Value → Shared → Prop}
    (F : Fm C b f μ₀ env cs ρ own s) (rm : Room (k + 1) A) (fo : FnOk C (Wl env cs own ++ μ₀) s a fd args vals kw ρf) (hbody : fd.body = .stmts body) (hO : own'.map (·.1) = own.map (·.1))
    (h : ∀ b' μ' L s₁ A' E', Fm C b' s μ' (callEnvX fd L a) [] ((args.map fun x => (x.1, x.2.2)) ++ ρf) own s₁ → Room k A' →
      wpAny (model C.prog C.w) A' (execs body (callEnvX fd L a)) (fun fl s' => (match fl with | .ret v => v | _ => .none) = Value.none ∧ ∃ ρ', Fm C b' s μ' (callEnvX fd L a) [] ρ' own' s') E' s₁)
    (ret : ∀ s', Fm C b f μ₀ env cs ρ own' s' → Q .none s') : wpAny (model C.prog C.w) A (call (.ref a) vals kw) Q E s := by
  have hnd := F.co.nodup
  have hmem : ∀ y, y ∈ (Wl env cs own ++ μ₀).filter (fun y => !(own.map (·.1)).contains y) ↔ y ∈ Wl env cs own ++ μ₀ ∧ y ∉ own.map (·.1) := fun y => by
    rw [List.mem_filter]
    simp
  refine enterX (own := own) (R := fun v s' => v = .none ∧ Fm C b f μ₀ env cs ρ own' s') F.co.good rm fo hbody hmem (fun p hp => ⟨List.mem_append_left _ (mem_Wl_o hp), (F.co.priv _ (mem_Wl_o hp)).2, F.ownd p hp⟩) (List.nodup_append.mp (List.nodup_cons.mp hnd).2).2.1 (fun L s₁ A' E' F' rm' => ?_) fun v s' hr => ?_
  · refine wpAny_mono (h _ _ L s₁ A' E' F' rm') (fun fl s' hr => ?_) fun _ _ e => e
    obtain ⟨e1, ρ'', F''⟩ := hr
    exact ⟨e1, F.back hmem F'' hO⟩
  · obtain ⟨rfl, F''⟩ := hr
    exact ret _ F''

/-- a function value's calls that keep what stands -/
noncomputable def FnC (C : Cx) (k : Nat) (df : D) (clos : List (Str × Addr)) (ρf : List (Str × D)) (ds : List D) (d : D) : Prop := ∀ fv vs, Ok C k (fun μ h => Dt C df fv μ h ∧ ClAt C clos ρf μ h ∧ DtL C ds vs μ h) (call fv vs) (Dt C d)

theorem kp_of_fn {h : Heap} {name qual : Str} {params : Arguments} {body : FuncBody} {scope : Scope} {fv : Value} (r : Dt C (.fn name qual params body scope clos) fv μ h) : ∃ kk, (kk = Keeper.frame ∨ kk = Keeper.machine ∨ kk = Keeper.boundFrame) ∧ Looks (model C.prog C.w) h (keeperOf fv) kk := by
  cases r with
  | fn e c => exact keeps_F h ⟨_, _, _, _, hid_ext _ _ _ _ e⟩

theorem ev_callF {func e : Expr} {es : List Expr} {pos : Pos} {name qual : Str} {params : Arguments} {body : FuncBody} {scope : Scope} (hf : Ev C k env ρ X func (.fn name qual params body scope clos)) (ha : EvL C k env ρ X pos (e :: es) ds)
    (hl : LookAll ρ ρf) (hcl : ClOk env clos ρf) (hc : FnC C k (.fn name qual params body scope clos) clos ρf ds d)
    (he : eval (.Call func (e :: es) [] pos) env = (do callWith pos (← eval func env) [] (backTo pos (starEach (e :: es) env)) (backToKw pos (keywordEach [] env))) := by rfl)
    (hs : starEach (e :: es) env = (false, eval e env) :: starEach es env := by rfl) (hp : (backTo pos (starEach es env)).any (·.1) = false := by rfl) : Ev C k env ρ X (.Call func (e :: es) [] pos) d := by
  intro μ A s Q E G p rm ret
  rw [he]
  refine wpAny_bind (hf μ A s _ E G p rm fun fv h₁ tk₁ k₁ G₁ r₁ => ?_)
  show wpAny _ _ (callWith pos fv [] (backTo pos (starEach (e :: es) env)) []) Q E _
  have ha' := ha μ A { s with heap := h₁, toks := tk₁ } 
  rw [hs] at ha' ⊢
  have p₁ := Cn.stable _ _ _ G k₁ G₁ p
  refine callWith_of (P := fun h => Dt C (.fn name qual params body scope clos) fv μ h) (by show ((false || (backTo pos (starEach es env)).any (·.1)) || false) = false; rw [hp]; rfl) (fun h r => kp_of_fn r) (evalArgs_plain ?_)
  refine ha' _ E G₁ p₁ rm fun vs h₂ tk₂ k₂ G₂ r₂ => ?_
  have r₁' := Dt.stable _ _ _ _ G₁ k₂ G₂ r₁
  exact ⟨r₁', hc fv vs μ A _ _ E G₂ ⟨r₁', ((Cn.stable _ _ _ G₁ k₂ G₂ p₁).1).clAt hl hcl, r₂⟩ rm fun v h' tk k₃ G₃ r₃ => ret v h' tk ((k₁.trans k₂).trans k₃) G₃ r₃⟩
end
end Mine

open PySem PySem.W PyProof.Rows PySem.Spec PySem.Calls
set_option Elab.async false
set_option maxRecDepth 100000
set_option linter.unusedVariables false
namespace Mine
section
variable {C : Cx} {k : Nat} {A : Around} {env : Env} {cs clos : List (Str × Addr)} {ρ ρ' ρf : List (Str × D)} {own own' : List (Addr × OD)} {b b' : Heap} {f s s' s₀ : Shared} {μ μ' μ₀ μ₁ W : List Addr} {d d₁ d₂ : D} {ds : List D} {h' : Heap} {tk : Nat} {X : SA C} {a : Addr}
  {Q : Flow → Shared → Prop} {E : Value → Shared → Prop} {rest : List Stmt}

theorem RepL.cut {g : Heap} {vs : List Value} (h : RepL C g vs ds) : ∀ i, RepL C g (vs.take i) (ds.take i) ∧ RepL C g (vs.drop i) (ds.drop i) := by
  induction ds generalizing vs with
  | nil => cases h; intro i; simp; exact .nil
  | cons d ds ih =>
    cases h with
    | cons h r =>
      intro i
      cases i with
      | zero => exact ⟨.nil, .cons h r⟩
      | succ i => exact ⟨.cons h (ih r i).1, (ih r i).2⟩
theorem RepL.getV {g : Heap} {vs : List Value} {i : Nat} {v : Value} (h : RepL C g vs ds) (e : vs[i]? = some v) : ∃ d, ds[i]? = some d ∧ Rep C g v d := by
  induction ds generalizing vs i with
  | nil => cases h; cases e
  | cons d ds ih =>
    cases h with
    | cons h r =>
      cases i with
      | zero => simp at e; subst e; exact ⟨_, rfl, h⟩
      | succ i => simp at e; obtain ⟨d', e1, e2⟩ := ih r e; exact ⟨d', by simpa using e1, e2⟩

theorem walks_bd {prog : Program} {w : World} {I : Addr} {fp wr : List Addr} {n : Nat} {P : Nat → Value → Prop} {St : Nat → Heap → Prop} (W : Walks prog w A I fp wr n P St) : Walks prog w A I fp wr n (fun i v => i < n ∧ P i v) St :=
  ⟨W.sub, W.frame, fun i s Q E hi st hQ => W.item i s Q E hi st fun v h' tk hP => hQ v h' tk ⟨hi, hP⟩, W.done, W.self⟩

theorem x_pair {x y : Str} {px py pt pos : Pos} {x1 : Nat} {e : Expr} {c : D} (F : Fm C b f μ₀ env cs ρ own s) (rm : Room k A) (he : Ev C k env ρ (OwnX C own) e (.tup [d, c])) (hx : Kd env cs x) (hy : Kd env cs y)
    (cont : ∀ s', Fm C b f μ₀ env cs ((y, c) :: (x, d) :: ρ) own s' → wpAny (model C.prog C.w) A (execs rest env) Q E s')
    (hs : swapsWithSole [.Tuple [.Name x px, .Name y py] x1 pt] e pos.line env = pure false := by rfl) (hw : swappedStores [.Tuple [.Name x px, .Name y py] x1 pt] e env = pure none := by rfl)
    (ha : (assignEach [.Tuple [.Name x px, .Name y py] x1 pt] env).map (·.2) = [assign (.Tuple [.Name x px, .Name y py] x1 pt) env] := by rfl) :
    wpAny (model C.prog C.w) A (execs (.Assign [.Tuple [.Name x px, .Name y py] x1 pt] e pos :: rest) env) Q E s := by
  refine x_cons (wpAny_Assign_stores (F.ev rm he fun v s₁ F₁ _ _ r => ?_) hs hw)
  rw [ha]
  show wpAny _ _ (assign _ env v) _ _ _
  exact Fm.pair hx hy F₁ r rm.handled fun s' F' => cont s' F'

theorem x_returnNone {pos : Pos} (h : Q (.ret .none) s) : wpAny (model C.prog C.w) A (execs (.Return none pos :: rest) env) Q E s :=
  x_cons (wpAny_Return_none h)

/-- xs[i] = v in a list of the frame's own -/
theorem x_setL {x : Str} {p pos' pos : Pos} {ki e : Expr} {i : Int} (F : Fm C b f μ₀ env cs ρ [(a, .list ds)] s) (rm : Room k A) (hl : ρ.lookup x = some (.val (.ref a))) (hi : Ev C k env ρ (OwnX C [(a, .list ds)]) ki (.int i)) (he : Ev C k env ρ (OwnX C [(a, .list ds)]) e d) (h0 : 0 ≤ i) (h1 : i < ds.length) (hz : ds.length ≤ 2 ^ 20)
    (cont : ∀ s', Fm C b f μ₀ env cs ρ [(a, .list (ds.set i.toNat d))] s' → wpAny (model C.prog C.w) A (execs rest env) Q E s')
    (hd : (x == ("__debug__" : Str)) = false := by decide) (hs : swapsWith e (some (.Subscript (.Name x p) ki pos')) pos.line env = pure false := by rfl) :
    wpAny (model C.prog C.w) A (execs (.Assign [.Subscript (.Name x p) ki pos'] e pos :: rest) env) Q E s := by
  refine x_cons (wpAny_Assign_Subscript (F.ev rm he fun v₁ s₁ F₁ _ _ r₁ => F₁.ev rm (ev_name hl hd) fun v₂ s₂ F₂ kh₂ _ r₂ => F₂.ev rm hi fun v₃ s₃ F₃ kh₃ _ r₃ => ?_) hs)
  cases r₂; cases r₃
  obtain ⟨vs, ⟨n, hp⟩, hr⟩ := F₃.ownd _ (List.mem_singleton.mpr rfl)
  have hlen := repL_length hr
  rw [Array.length_toList] at hlen
  refine ki_setAt (n := n) hp h0 (by lia) (by lia) ?_
  have q := PySem.IsL.update hp (·.setIfInBounds i.toNat v₁)
  refine cont _ (F₃.ownTurn (od' := .list (ds.set i.toNat d)) (tk := s₃.toks) (Heap.SameBut.update ..) fun gx => ⟨_, ⟨_, q⟩, ?_⟩)
  rw [Array.toList_setIfInBounds]
  exact RepL.set (hr.mono gx) ((r₁.mono (KH.hid F₁.co.good.sub (kh₂.trans kh₃))).mono gx)

/-- a new list [e] * n becomes the frame's own -/
theorem x_newRepeat {x : Str} {p pos pb : Pos} {l r : Expr} {n : Int} (F : Fm C b f μ₀ env cs ρ [] s) (rm : Room k A) (hl : Ev C k env ρ (OwnX C []) l (.list [d])) (hr : Ev C k env ρ (OwnX C []) r (.int n)) (h0 : 0 ≤ n) (h1 : n ≤ 2 ^ 20) (hx : Kd env cs x)
    (cont : ∀ a s', Fm C b f μ₀ env cs ((x, .val (.ref a)) :: ρ) [(a, .list (List.replicate n.toNat d))] s' → wpAny (model C.prog C.w) A (execs rest env) Q E s') :
    wpAny (model C.prog C.w) A (execs (.Assign [.Name x p] (.BinOp l .Mult r pb) pos :: rest) env) Q E s := by
  refine x_cons (wpAny_Assign_Name (wpAny_BinOp (F.ev rm hl fun v₁ s₁ F₁ _ _ r₁ => F₁.ev rm hr fun v₂ s₂ F₂ k₂ _ r₂ => ?_)) rfl)
  have r₁' := r₁.mono (KH.hid F₁.co.good.sub k₂)
  cases r₂
  cases r₁'
  rename_i t al vs hpl hrr
  obtain ⟨m, ho⟩ := id hpl
  have hl := hid_ext _ _ _ _ ho
  have e1 := repL_length hrr
  rw [Array.length_toList] at e1
  have e1' : vs.size = 1 := e1
  refine wpAny_binaryOp_repeat_ref (T := "list") (U := "int") (by decide) ⟨_, hl, rfl⟩ (fun s' => typeIs_int s' n _) noFill_list_mul PySem.F.fills_int_mul PySem.F.slot_int_rmul repeat_list PySem.F.slot_int_index.lookup
    (call_meets PySem.F.slot_int_rmul (typeIs_int s₂ n _) PySem.F.entry_int_rmul (PySem.F.args_int_rmul_2 _ _) (int___rmul___int_list n _ al vs m)
      ⟨hl, rfl, ⟨_, hl, rfl⟩, call_meets PySem.F.slot_list_mul ⟨_, hl, rfl⟩ PySem.F.entry_list_mul (PySem.F.args_list_mul_2 _ _)
        (AutoListH.list___mul___list_int_3 al vs m n _ (by simp [Builtin.List.listFitsIndex]; lia) (by rw [e1']; lia) (by simp [Builtin.List.listTooLong, sizeLine, e1']; lia))
        ⟨hl, ?_⟩⟩)
  have hne : vs.isEmpty = false := by simp [Array.isEmpty, e1']
  rw [if_neg (by rw [hne]; decide)]
  obtain ⟨v, hv⟩ : ∃ v, vs = #[v] := by
    obtain ⟨l⟩ := vs
    match l, e1' with
    | [v], _ => exact ⟨v, rfl⟩
  subst hv
  have F' := F₂.ownNew (a := s₂.heap.objs.size) (od := .list (List.replicate n.toNat d)) (tk := s₂.toks) (push_ext s₂.heap { cls := .type "list", data := .seq (List.foldl (fun x1 x2 => x1 ++ x2) #[] (List.replicate n.toNat #[v])) }) (fresh_size _) fun gx => ⟨_, ⟨0, Heap.get?_push_size _ rfl⟩, by
    generalize hideAll (s₂.heap.push _) _ = g at gx ⊢
    have hv : Rep C g v d := by
      cases hrr with | cons hr _ => exact hr.mono gx
    have key : ∀ (n : Nat) (acc : Array Value) (es : List D), RepL C g acc.toList es → RepL C g (List.foldl (fun x1 x2 => x1 ++ x2) acc (List.replicate n #[v])).toList (es ++ List.replicate n d) := by
      intro n
      induction n with
      | zero => intro acc es h; simpa using h
      | succ n ih =>
        intro acc es h
        rw [List.replicate_succ, List.replicate_succ, List.foldl_cons]
        have := ih (acc ++ #[v]) (es ++ [d]) (by rw [Array.toList_append]; exact h.append (.cons hv .nil))
        simpa using this
    exact key n.toNat #[] [] .nil⟩
  exact F'.store hx (.val _) fun h' tk F'' => cont _ _ F''

/-- a new list l + r becomes the frame's own -/
theorem x_newConcat {x : Str} {p pos pb : Pos} {l r : Expr} {es : List D} (F : Fm C b f μ₀ env cs ρ [] s) (rm : Room k A) (hl : Ev C k env ρ (OwnX C []) l (.list ds)) (hr : Ev C k env ρ (OwnX C []) r (.list es)) (hz : ds.length + es.length ≤ 2 ^ 20) (hx : Kd env cs x)
    (cont : ∀ a s', Fm C b f μ₀ env cs ((x, .val (.ref a)) :: ρ) [(a, .list (ds ++ es))] s' → wpAny (model C.prog C.w) A (execs rest env) Q E s') :
    wpAny (model C.prog C.w) A (execs (.Assign [.Name x p] (.BinOp l .Add r pb) pos :: rest) env) Q E s := by
  refine x_cons (wpAny_Assign_Name (wpAny_BinOp (F.ev rm hl fun v₁ s₁ F₁ _ _ r₁ => F₁.ev rm hr fun v₂ s₂ F₂ k₂ _ r₂ => ?_)) rfl)
  have r₁' := r₁.mono (KH.hid F₁.co.good.sub k₂)
  cases r₂
  cases r₁'
  rename_i b₂ us hl2 hr2 b₁ vs hl1 hr1
  obtain ⟨n, ho⟩ := id hl1
  obtain ⟨n2, ho2⟩ := id hl2
  have ho' := hid_ext _ _ _ _ ho
  have ho2' := hid_ext _ _ _ _ ho2
  have e1 := repL_length hr1
  have e2 := repL_length hr2
  rw [Array.length_toList] at e1 e2
  refine concat_meets ⟨_, ho', rfl⟩ ⟨_, ho2', rfl⟩ noFill_list_add seq_list_add PySem.F.slot_list_add PySem.F.entry_list_add (PySem.F.args_list_add_2 _ _) (list_addW b₁ b₂ vs us n n2 none none #[] #[] (by show vs.size + us.size ≤ sizeLine; rw [e1, e2]; exact Nat.le_trans hz (by decide))) ⟨ho', ho2', ?_⟩
  have F' := F₂.ownNew (a := s₂.heap.objs.size) (od := .list (ds ++ es)) (tk := s₂.toks) (push_ext s₂.heap { cls := .type "list", data := .seq (vs ++ us) }) (fresh_size _) fun gx => ⟨_, ⟨0, Heap.get?_push_size _ rfl⟩, by
    rw [Array.toList_append]
    exact (hr1.mono gx).append (hr2.mono gx)⟩
  exact F'.store hx (.val _) fun h' tk F'' => cont _ _ F''

/-- xs.reverse() of the frame's own -/
theorem x_reverse {xs : Str} {p1 apos cpos pos : Pos} (F : Fm C b f μ₀ env cs ρ [(a, .list ds)] s) (rm : Room k A) (hl : ρ.lookup xs = some (.val (.ref a))) (hz : ds.length ≤ 2 ^ 20)
    (cont : ∀ s', Fm C b f μ₀ env cs ρ [(a, .list ds.reverse)] s' → wpAny (model C.prog C.w) A (execs rest env) Q E s')
    (hd : (xs == ("__debug__" : Str)) = false := by decide) (hs : swapsWith (.Call (.Attribute (.Name xs p1) "reverse" apos) [] [] cpos) none pos.line env = pure false := by rfl)
    (hfew : ((backTo cpos (starEach [] env)).all (fun x => !x.1) && (backToKw cpos (keywordEach [] env)).all (fun x => x.1.isSome) && decide (([] : List Expr).length + ([] : List Keyword).length + (if ([] : List Keyword).isEmpty then 0 else 1) < 30)) = true := by rfl)
    (hline : (apos.endLine == cpos.line) = true := by rfl) (hi : interactive env = false := by rfl) :
    wpAny (model C.prog C.w) A (execs (.Expr (.Call (.Attribute (.Name xs p1) "reverse" apos) [] [] cpos) pos :: rest) env) Q E s := by
  refine x_cons (wpAny_Expr_any ?_ hi hs)
  refine wpAny_Call_method (T := "list") (id := "list.reverse") rfl hfew hline PySem.F.plainAttrs_list PySem.F.slot_list_reverse PySem.F.type_list_reverse (F.ev rm (ev_name hl hd) fun v s₁ F₁ _ _ r => ?_)
  cases r
  obtain ⟨vs, ⟨n, hp⟩, hr⟩ := F₁.ownd _ (List.mem_singleton.mpr rfl)
  refine ⟨⟨_, hp, rfl⟩, fun a' q => by cases q; exact ⟨_, hp, rfl⟩, ?_⟩
  have hlen := repL_length hr
  rw [Array.length_toList] at hlen
  refine callWith_of (P := fun h => True) rfl (fun h G => ⟨.machine, .inr (.inl rfl), Looks.of_pure rfl⟩) (evalArgs_nil3 ⟨trivial, ?_⟩)
  refine call_meets PySem.F.slot_list_reverse ⟨_, hp, rfl⟩ PySem.F.entry_list_reverse (PySem.F.args_list_reverse_1 _) (AutoSeq1.list_reverse_list_0 a vs n (by rw [hlen]; exact Nat.le_trans hz (by decide))) ⟨hp, ?_⟩
  have q := PySem.IsL.update hp (fun x => x.reverse)
  exact cont _ (F₁.ownTurn (od' := .list ds.reverse) (tk := s₁.toks) (Heap.SameBut.update ..) fun gx => ⟨_, ⟨_, q⟩, by rw [Array.toList_reverse]; exact (hr.mono gx).reverse⟩)

/-- xs.insert(i, v) in a list of the frame's own -/
theorem x_insert {xs : Str} {e e2 : Expr} {p1 apos cpos pos : Pos} {i : Nat} (F : Fm C b f μ₀ env cs ρ [(a, .list ds)] s) (rm : Room k A) (hl : ρ.lookup xs = some (.val (.ref a))) (he : EvL C k env ρ (OwnX C [(a, .list ds)]) cpos [e, e2] [.int i, d]) (hle : i ≤ ds.length) (hz : ds.length ≤ 2 ^ 20)
    (cont : ∀ s', Fm C b f μ₀ env cs ρ [(a, .list (ds.take i ++ d :: ds.drop i))] s' → wpAny (model C.prog C.w) A (execs rest env) Q E s')
    (hd : (xs == ("__debug__" : Str)) = false := by decide) (hs : swapsWith (.Call (.Attribute (.Name xs p1) "insert" apos) [e, e2] [] cpos) none pos.line env = pure false := by rfl)
    (hfew : ((backTo cpos (starEach [e, e2] env)).all (fun x => !x.1) && (backToKw cpos (keywordEach [] env)).all (fun x => x.1.isSome) && decide ([e, e2].length + ([] : List Keyword).length + (if ([] : List Keyword).isEmpty then 0 else 1) < 30)) = true := by rfl)
    (hline : (apos.endLine == cpos.line) = true := by rfl) (hst : starEach [e, e2] env = [(false, eval e env), (false, eval e2 env)] := by rfl) (hi : interactive env = false := by rfl) :
    wpAny (model C.prog C.w) A (execs (.Expr (.Call (.Attribute (.Name xs p1) "insert" apos) [e, e2] [] cpos) pos :: rest) env) Q E s := by
  refine x_cons (wpAny_Expr_any ?_ hi hs)
  refine wpAny_Call_method (T := "list") (id := "list.insert") rfl hfew hline PySem.F.plainAttrs_list PySem.F.slot_list_insert PySem.F.type_list_insert (F.ev rm (ev_name hl hd) fun v s₁ F₁ _ _ r => ?_)
  cases r
  obtain ⟨vs, ⟨n, hp⟩, hr⟩ := F₁.ownd _ (List.mem_singleton.mpr rfl)
  refine ⟨⟨_, hp, rfl⟩, fun a' q => by cases q; exact ⟨_, hp, rfl⟩, ?_⟩
  have he' := he (Wl env cs [(a, .list ds)] ++ μ₀) A s₁
  rw [hst] at he' ⊢
  refine callWith_of (P := fun h => True) rfl (fun h G => ⟨.machine, .inr (.inl rfl), Looks.of_pure rfl⟩) (evalArgs_plain ?_)
  refine he' _ E F₁.co.good F₁.sees rm fun us h₂ tk₂ k₂ G₂ r₂ => ⟨trivial, ?_⟩
  have F₂ := F₁.pure (tk := tk₂) k₂ G₂
  rcases r₂ with ⟨r₂, ⟨r₃, ⟨⟩⟩⟩
  cases r₂
  rename_i y t
  obtain ⟨vs₂, ⟨n₂, hp₂⟩, hr₂⟩ := F₂.ownd _ (List.mem_singleton.mpr rfl)
  have hlen := repL_length hr₂
  rw [Array.length_toList] at hlen
  obtain ⟨li, rfl⟩ : ∃ li : List Value, vs₂ = li.toArray := ⟨vs₂.toList, by rw [Array.toArray_toList]⟩
  rw [List.size_toArray] at hlen
  have hsz : li.toArray.size ≤ sizeLine := by rw [List.size_toArray, hlen]; exact Nat.le_trans hz (by decide)
  obtain ⟨x, hx⟩ : ∃ x : Int, x = (i : Int) := ⟨_, rfl⟩
  have hfi : ¬ (!Builtin.List.listFitsIndex x) = true := by
    simp only [Builtin.List.listFitsIndex, Bool.not_eq_true', Bool.not_eq_false]
    simp only [Bool.and_eq_true, decide_eq_true_eq]
    lia
  show wpAny _ _ (call (.builtin "list.insert") [.ref a, .int (i : Int) t, y]) _ _ _
  rw [← hx]
  refine call_meets PySem.F.slot_list_insert ⟨_, hp₂, rfl⟩ PySem.F.entry_list_insert (PySem.F.args_list_insert_3 _ _ _) (PySem.AutoSeq1.list_insert_list_int_val_1 a li.toArray n₂ x t y hfi hsz) ⟨hp₂, ?_⟩
  have q := PySem.IsL.update hp₂ (fun xs => have k := if x < 0 then (x + (xs.size : Int)).toNat else min x.toNat xs.size; (xs.extract 0 k).push y ++ xs.extract k)
  refine cont _ (F₂.ownTurn (od' := .list (ds.take i ++ d :: ds.drop i)) (tk := tk₂) (Heap.SameBut.update ..) fun gx => ⟨_, ⟨_, q⟩, ?_⟩)
  have e3 : ((li.toArray.extract 0 (if x < 0 then (x + (li.toArray.size : Int)).toNat else min x.toNat li.toArray.size)).push y ++ li.toArray.extract (if x < 0 then (x + (li.toArray.size : Int)).toNat else min x.toNat li.toArray.size)).toList = li.take i ++ y :: li.drop i := by
    rw [if_neg (by lia)]
    have : min x.toNat li.toArray.size = i := by rw [List.size_toArray, hx]; simp; lia
    rw [this, kl_ins_eq]
  show RepL C _ (((li.toArray.extract 0 (if x < 0 then (x + (li.toArray.size : Int)).toNat else min x.toNat li.toArray.size)).push y ++ li.toArray.extract (if x < 0 then (x + (li.toArray.size : Int)).toNat else min x.toNat li.toArray.size)).toList) _
  rw [e3]
  have hrr : RepL C _ li ds := hr₂.mono gx
  have tk1 := hrr.cut i
  exact tk1.1.append (.cons (r₃.mono gx) tk1.2)

theorem it_rev {e : Expr} {p1 pos : Pos} (hE : EnvF env) (hk : env.kindOf (Str.ofString "reversed") = some .globalImplicit) (he : Ev C k env ρ X e (.list ds))
    (hs : starEach [e] env = (false, eval e env) :: starEach [] env := by rfl) : ItOk C k env ρ X (.Call (.Name (Str.ofString "reversed") p1) [e] [] pos) ds.reverse := by
  intro μ A s Q E G p rm cont
  show wpAny _ _ (do callWith pos (← eval (.Name (Str.ofString "reversed") p1) env) [] (backTo pos (starEach [e] env)) (backToKw pos (keywordEach [] env))) _ _ _
  refine wpAny_bind ((ev_builtin hE hk rfl bb_reversed : Ev C k env ρ X _ _) μ A s _ E G p rm fun fv h₁ tk₁ k₁ G₁ r₁ => ?_)
  cases r₁
  show wpAny _ _ (callWith pos _ [] (backTo pos (starEach [e] env)) []) _ _ _
  rw [hs]
  refine callWith_of (P := fun h => True) rfl (fun h G => ⟨.machine, .inr (.inl rfl), Looks.of_pure rfl⟩) (evalArgs_plain (spliced_cons ?_))
  refine he μ A _ _ E G₁ (Cn.stable _ _ _ G k₁ G₁ p) rm fun v h₂ tk₂ k₂ G₂ r₂ => spliced_nil ⟨trivial, ?_⟩
  cases r₂
  rename_i l vs hl hr
  have hl' := hl.isList.at fun o e => hid_ext μ h₂ _ o e
  obtain ⟨na, ha⟩ := id hl
  have hne : l ≠ h₂.objs.size := Nat.ne_of_lt (Heap.lt_size (of_hideAll _ ha))
  have hlen : vs.size = ds.length := by have := repL_length hr; simpa using this
  refine call_reversed_list (s := { s with heap := h₂, toks := tk₂ }) hl' ?_
  have hit : (h₂.push (revObj l ((vs.size : Int) - 1))).IsRevIter h₂.objs.size l ((vs.size : Int) - 1) := ⟨_, Heap.get?_push_size _ rfl, rfl, rfl⟩
  refine wpAny_pyIter_revIter (s := { s with heap := h₂.push (revObj l ((vs.size : Int) - 1)), toks := tk₂ }) hit ?_
  have W := walks_bd (Walks.listRev (prog := C.prog) (w := C.w) rm.handled h₂.objs.size l hne vs)
  have hlr : vs.size = ds.reverse.length := by rw [List.length_reverse, hlen]
  rw [← hlr] at cont
  refine cont h₂ tk₂ h₂.objs.size _ tk₂ _ _ _ (k₁.trans k₂) G₂ (push_ext _ _) (fresh_size _) W ?_ ?_ ⟨Nat.zero_le _, by simpa using hit, hl'.at fun o e => Heap.get?_push_of_some _ e⟩ ?_
  · intro b hb
    rcases List.mem_cons.mp hb with rfl | hb
    · exact .inl rfl
    · rw [List.mem_singleton.mp hb]; exact .inr ⟨_, ha⟩
  · rintro i h ⟨_, ⟨o, e, _, q⟩, _⟩; exact ⟨o, e, fun v z => by rw [q] at z; cases z⟩
  · rintro i v' ⟨hi, hv⟩
    have hv' : vs.toList[vs.size - 1 - i]? = some v' := by rw [Array.getElem?_toList]; exact hv
    refine hr.reverse.getV ?_
    rw [List.getElem?_reverse (by simpa using hi), Array.length_toList]
    exact hv'
end
end Mine

open PySem PySem.W PyProof.Rows PySem.Spec PySem.Calls
set_option Elab.async false
set_option linter.unusedVariables false
namespace Mine

theorem or_high (x s : Nat) : x ||| (x / 2 ^ s) * 2 ^ s = x := by
  apply Nat.eq_of_testBit_eq
  intro i
  rw [← Nat.shiftRight_eq_div_pow, ← Nat.shiftLeft_eq, Nat.testBit_or, Nat.testBit_shiftLeft, Nat.testBit_shiftRight]
  by_cases h : s ≤ i
  · have : s + (i - s) = i := by lia
    simp [h, this]
  · simp [h]
theorem and_high (x s : Nat) : x &&& (x / 2 ^ s) * 2 ^ s = (x / 2 ^ s) * 2 ^ s := by
  apply Nat.eq_of_testBit_eq
  intro i
  rw [← Nat.shiftRight_eq_div_pow, ← Nat.shiftLeft_eq, Nat.testBit_and, Nat.testBit_shiftLeft, Nat.testBit_shiftRight]
  by_cases h : s ≤ i
  · have : s + (i - s) = i := by lia
    simp [h, this]
  · simp [h]
theorem xor_high (x s : Nat) : Builtin.bitXor (x : Int) (((x / 2 ^ s : Nat) : Int) * 2 ^ s) = ((x % 2 ^ s : Nat) : Int) := by
  have e : ((x / 2 ^ s : Nat) : Int) * 2 ^ s = (((x / 2 ^ s) * 2 ^ s : Nat) : Int) := by simp
  rw [e]
  generalize hy : (x / 2 ^ s) * 2 ^ s = y
  have h1 : x ||| y = x := by rw [← hy]; exact or_high x s
  have h2 : x &&& y = y := by rw [← hy]; exact and_high x s
  have h3 : Builtin.bitAnd (x : Int) (y : Int) = (y : Int) := by
    unfold Builtin.bitAnd
    simp [h2]
  have h4 : Builtin.bitOr (x : Int) (y : Int) = (x : Int) := by
    unfold Builtin.bitOr Builtin.bitAnd Builtin.bitNot
    have n1 : decide (0 ≤ -(x : Int) - 1) = false := by simp; lia
    have n2 : decide (0 ≤ -(y : Int) - 1) = false := by simp; lia
    rw [n1, n2]
    simp only []
    have n3 : (-(-(x : Int) - 1) - 1).toNat = x := by lia
    have n4 : (-(-(y : Int) - 1) - 1).toNat = y := by lia
    rw [n3, n4, h1]
    lia
  unfold Builtin.bitXor
  rw [h3, h4]
  have := Nat.div_add_mod x (2 ^ s)
  rw [Nat.mul_comm, hy] at this
  lia

/-- the digits of x, least first -/
noncomputable def digs (n : Nat) : Nat → Nat → List Int
  | _, 0 => []
  | x, c + 1 => ((x % 2 ^ n : Nat) : Int) :: digs n (x / 2 ^ n) c
theorem digs_len (n : Nat) : ∀ (c x : Nat), (digs n x c).length = c
  | 0, _ => rfl
  | c + 1, x => by simp [digs, digs_len n c]
theorem digs_app (n : Nat) : ∀ (c e x : Nat), digs n x (c + e) = digs n x c ++ digs n (x / 2 ^ (n * c)) e
  | 0, e, x => by simp [digs]
  | c + 1, e, x => by
    rw [show c + 1 + e = (c + e) + 1 by lia]
    simp only [digs, List.cons_append, digs_app n c e, Nat.div_div_eq_div_mul]
    rw [← Nat.pow_add, show n + n * c = n * (c + 1) by rw [Nat.mul_add]; lia]
theorem digs_mod (n : Nat) : ∀ (c x : Nat), digs n (x % 2 ^ (n * c)) c = digs n x c
  | 0, x => rfl
  | c + 1, x => by
    simp only [digs]
    have e : 2 ^ (n * (c + 1)) = 2 ^ n * 2 ^ (n * c) := by rw [← Nat.pow_add]; congr 1; rw [Nat.mul_add]; lia
    have h1 : x % 2 ^ (n * (c + 1)) % 2 ^ n = x % 2 ^ n := by rw [e]; exact Nat.mod_mul_right_mod x _ _
    have h2 : x % 2 ^ (n * (c + 1)) / 2 ^ n = x / 2 ^ n % 2 ^ (n * c) := by rw [e, Nat.mod_mul_right_div_self]
    rw [h1, h2, digs_mod n c]
/-- what digits stand for -/
noncomputable def undigs (n : Nat) : List Int → Int
  | [] => 0
  | x :: r => x + 2 ^ n * undigs n r
theorem undigs_digs (n : Nat) : ∀ (c x : Nat), x < 2 ^ (n * c) → undigs n (digs n x c) = x
  | 0, x, h => by simp at h; subst h; rfl
  | c + 1, x, h => by
    have e : 2 ^ (n * (c + 1)) = 2 ^ n * 2 ^ (n * c) := by rw [← Nat.pow_add]; congr 1; rw [Nat.mul_add]; lia
    rw [e] at h
    have h1 := undigs_digs n c (x / 2 ^ n) (Nat.div_lt_of_lt_mul h)
    simp only [digs, undigs, h1]
    have h3 : ((x % 2 ^ n + 2 ^ n * (x / 2 ^ n) : Nat) : Int) = (x : Int) := by rw [Nat.mod_add_div]
    rw [Int.natCast_add, Int.natCast_mul, Int.natCast_pow] at h3
    exact h3
theorem undigs_app (n : Nat) : ∀ (l r : List Int), undigs n (l ++ r) = undigs n l + 2 ^ (n * l.length) * undigs n r
  | [], r => by simp [undigs]
  | x :: l, r => by
    simp only [List.cons_append, undigs, undigs_app n l r, List.length_cons]
    rw [show n * (l.length + 1) = n + n * l.length by rw [Nat.mul_add]; lia, Int.pow_add, Int.mul_add, Int.mul_assoc]
    lia
theorem bits_lt (a : Nat) : a < 2 ^ Builtin.Int.intBits (a : Int) := by
  unfold Builtin.Int.intBits
  by_cases h : a = 0
  · subst h; decide
  · have : ((a : Int) == 0) = false := by simpa using h
    rw [this]
    simp only [Bool.false_eq_true, if_false, Int.natAbs_natCast]
    exact Nat.lt_log2_self
theorem bits_le {a n : Nat} (h : a < 2 ^ n) : Builtin.Int.intBits (a : Int) ≤ n := by
  unfold Builtin.Int.intBits
  by_cases h0 : a = 0
  · subst h0; simp
  · have : ((a : Int) == 0) = false := by simpa using h0
    rw [this]
    simp only [Bool.false_eq_true, if_false, Int.natAbs_natCast]
    exact (Nat.log2_lt h0).mpr h
end Mine

open PySem PySem.W PyProof.Rows PySem.Spec PySem.Calls
set_option Elab.async false
set_option maxRecDepth 100000
set_option linter.unusedVariables false
namespace Mine

/-- a def that stands in a def of the text -/
structure InDef where
  name : Str
  params : Arguments
  body : List Stmt
  scope : Scope
  deriving Inhabited
noncomputable def inDef (K : Frag) (a : Addr) (i : Nat) : InDef := match K.lookup a with
  | some ⟨_, _, .func fd, _⟩ => (match fd.body with
    | .stmts l => (match l[i]? with
      | some (.FunctionDef name params body _ _ _ scope _ _ _) => ⟨name, params, body, scope⟩
      | _ => default)
    | _ => default)
  | _ => default
noncomputable abbrev InDef.D (I : InDef) (qual : Str) (clos : List (Str × Addr)) : Mine.D := .fn I.name qual I.params (.stmts I.body) I.scope clos

section
variable {C : Cx} {k : Nat} {A : Around} {env : Env} {cs clos : List (Str × Addr)} {ρ ρ' ρf : List (Str × D)} {own own' : List (Addr × OD)} {b b' : Heap} {f s s' s₀ : Shared} {μ μ' μ₀ μ₁ W : List Addr} {d d₁ d₂ : D} {ds : List D} {h' : Heap} {tk : Nat} {X : SA C} {a : Addr} {od od' : OD}
  {Q : Flow → Shared → Prop} {E : Value → Shared → Prop} {rest : List Stmt}

/-- a call that is lent the frame's own object and hands back nothing -/
noncomputable def SpecO (C : Cx) (k : Nat) (df : D) (clos : List (Str × Addr)) (ρf : List (Str × D)) (ds : List D) (a : Addr) (od od' : OD) : Prop :=
  ∀ (b : Heap) (f : Shared) (μ₀ : List Addr) (env : Env) (cs : List (Str × Addr)) (ρ : List (Str × D)) (s : Shared) (A : Around) (Q : Value → Shared → Prop) (E : Value → Shared → Prop) (fv : Value) (vs : List Value),
    Fm C b f μ₀ env cs ρ [(a, od)] s → Room k A → Rep C (hideAll s.heap (Wl env cs [(a, od)] ++ μ₀)) fv df → ClAt C clos ρf (Wl env cs [(a, od)] ++ μ₀) s.heap → RepL C (hideAll s.heap (Wl env cs [(a, od)] ++ μ₀)) vs ds →
    (∀ s', Fm C b f μ₀ env cs ρ [(a, od')] s' → Q .none s') → wpAny (model C.prog C.w) A (call fv vs) Q E s

theorem SpecO.le {j : Nat} {df : D} (h : SpecO C j df clos ρf ds a od od') (hj : j ≤ k) : SpecO C k df clos ρf ds a od od' := fun b f μ₀ env cs ρ s A Q E fv vs F rm => h b f μ₀ env cs ρ s A Q E fv vs F (rm.le hj)

theorem x_callO {fname : Str} {e : Expr} {es : List Expr} {p1 cpos pos : Pos} {name qual : Str} {params : Arguments} {body : FuncBody} {scope : Scope}
    (F : Fm C b f μ₀ env cs ρ [(a, od)] s) (rm : Room k A) (hl : ρ.lookup fname = some (.fn name qual params body scope clos)) (ha : EvL C k env ρ (OwnX C [(a, od)]) cpos (e :: es) ds)
    (hla : LookAll ρ ρf) (hcl : ClOk env clos ρf) (spec : SpecO C k (.fn name qual params body scope clos) clos ρf ds a od od')
    (cont : ∀ s', Fm C b f μ₀ env cs ρ [(a, od')] s' → wpAny (model C.prog C.w) A (execs rest env) Q E s')
    (hd : (fname == ("__debug__" : Str)) = false := by decide) (hs : swapsWith (.Call (.Name fname p1) (e :: es) [] cpos) none pos.line env = pure false := by rfl) (hi : interactive env = false := by rfl)
    (he : eval (.Call (.Name fname p1) (e :: es) [] cpos) env = (do callWith cpos (← eval (.Name fname p1) env) [] (backTo cpos (starEach (e :: es) env)) (backToKw cpos (keywordEach [] env))) := by rfl)
    (hst : starEach (e :: es) env = (false, eval e env) :: starEach es env := by rfl) (hp : (backTo cpos (starEach es env)).any (·.1) = false := by rfl) :
    wpAny (model C.prog C.w) A (execs (.Expr (.Call (.Name fname p1) (e :: es) [] cpos) pos :: rest) env) Q E s := by
  refine x_cons (wpAny_Expr_any ?_ hi hs)
  rw [he]
  refine wpAny_bind (F.ev rm (ev_name hl hd) fun fv s₁ F₁ _ _ r₁ => ?_)
  show wpAny _ _ (callWith cpos fv [] (backTo cpos (starEach (e :: es) env)) []) _ _ _
  have ha' := ha (Wl env cs [(a, od)] ++ μ₀) A s₁
  rw [hst] at ha' ⊢
  refine callWith_of (P := fun h => Dt C (.fn name qual params body scope clos) fv (Wl env cs [(a, od)] ++ μ₀) h) (by show ((false || (backTo cpos (starEach es env)).any (·.1)) || false) = false; rw [hp]; rfl) (fun h r => kp_of_fn r) (evalArgs_plain ?_)
  refine ha' _ E F₁.co.good F₁.sees rm fun vs h₂ tk₂ k₂ G₂ r₂ => ?_
  have F₂ := F₁.pure (tk := tk₂) k₂ G₂
  have r₁' := Dt.stable _ _ _ _ F₁.co.good k₂ G₂ r₁
  exact ⟨r₁', spec _ _ _ _ _ _ _ A _ E fv vs F₂ rm r₁' (F₂.sees.1.clAt hla hcl) r₂ fun s' F' => cont s' F'⟩

/-- what a made function must be to be entered -/
theorem fnOk_of {name qual : Str} {params : Arguments} {body : FuncBody} {scope : Scope} {fv : Value} {vals : List Value} (args : List (Str × Value × D)) (r : Rep C (hideAll s.heap μ) fv (.fn name qual params body scope clos))
    (hbind : ∀ doc pm cdv ct, bindArgs (mkFd name qual params body scope clos doc pm cdv ct) ⟨vals, []⟩ = pure (args.map fun x => (x.1, x.2.1))) (hnd : decide (args.map (·.1)).Nodup = true)
    (hkind : ((args.map fun x => (x.1, x.2.1)).all fun y => scope.names.lookup y.1 == some .local) = true) (hnc : (scope.names.all fun x => x.2 != .cell) = true)
    (hco : scope.isCoroutine = false) (hgen : scope.isGenerator = false) (hk : scope.kind = .function) (hargs : ArgsRep C (hideAll s.heap μ) args) (hcl : ClAt C clos ρf μ s.heap)
    (hfree : (ρf.all fun p => scope.names.lookup p.1 == some .free && !(p.1 == ("__classdict__" : Str))) = true) :
    ∃ w doc pm cdv ct, fv = .ref w ∧ FnOk C μ s w (mkFd name qual params body scope clos doc pm cdv ct) args vals [] ρf := by
  cases r with
  | fn e c =>
  rename_i w doc pm cdv ct
  refine ⟨w, doc, pm, cdv, ct, rfl, ⟨⟨_, e, rfl⟩, c, BindsTo.of_eq (hbind _ _ _ _), of_decide_eq_true hnd, fun x hx => ?_, fun x hx => ?_, rfl, rfl, hco, hgen, hk, hargs.all, hcl, fun p hp => ?_⟩⟩
  · have := List.all_eq_true.mp hkind _ (List.mem_map.mpr ⟨x, hx, rfl⟩)
    exact eq_of_beq this
  · have := List.all_eq_true.mp hnc x hx
    simpa using this
  · have := List.all_eq_true.mp hfree p hp
    rw [Bool.and_eq_true] at this
    exact ⟨eq_of_beq this.1, by simpa using this.2⟩

noncomputable def i2d (p : Params) : InDef := inDef (hd.heap_39 p) 49 1

theorem mulOk {a b : Int} (h : a.natAbs < 2 ^ 20) : IntMulOk a b := IntMulOk.of_left (by
  unfold Builtin.Int.intBits
  by_cases h0 : a = 0
  · subst h0; simp
  · have : (a == 0) = false := by simpa using h0
    rw [this]
    simp only [Bool.false_eq_true, if_false]
    have := (Nat.log2_lt (n := a.natAbs) (k := 20) (by lia)).mpr h
    lia)

theorem x_ret_own {pos : Pos} (F : Fm C b f μ₀ env cs ρ [(a, od)] s) : (match Flow.ret Value.none with | .ret v => v | _ => .none) = Value.none ∧ ∃ ρ', Fm C b f μ₀ env cs ρ' [(a, od)] s := ⟨rfl, _, F⟩

theorem fdiv_nat (x y : Nat) : (x : Int).fdiv (y : Int) = ((x / y : Nat) : Int) := by
  rw [Int.fdiv_eq_ediv_of_nonneg _ (by lia)]; rfl
theorem fmod_nat (x y : Nat) : (x : Int).fmod (y : Int) = ((x % y : Nat) : Int) := by
  rw [Int.fmod_eq_emod_of_nonneg _ (by lia)]; rfl
theorem fdiv_pow (x s : Nat) : (x : Int).fdiv (2 ^ s) = ((x / 2 ^ s : Nat) : Int) := by
  have := fdiv_nat x (2 ^ s)
  rwa [Int.natCast_pow] at this

theorem ds_split {α : Type} (l : List α) (P Q : List α) (L c e : Nat) (h : L + c + e ≤ l.length) (hP : P.length = c) :
    (l.take L ++ P ++ l.drop (L + c)).take (L + c) ++ Q ++ (l.take L ++ P ++ l.drop (L + c)).drop (L + c + e) = l.take L ++ (P ++ Q) ++ l.drop (L + (c + e)) := by
  have h1 : (l.take L ++ P).length = L + c := by rw [List.length_append, List.length_take, hP]; lia
  rw [List.take_append_of_le_length (by lia), List.take_of_length_le (by lia), List.drop_append, h1, List.drop_eq_nil_of_le (by lia), List.nil_append, List.drop_drop]
  rw [show L + c + (L + c + e - (L + c)) = L + (c + e) by lia]
  simp [List.append_assoc]

set_option maxHeartbeats 2000000 in
theorem i2d_inner {n : Nat} (hn : 0 < n) (hn2 : n ≤ 20) (a : Addr) (clos : List (Str × Addr)) : ∀ (cnt : Nat), 0 < cnt → cnt ≤ 1000 → ∀ (x L : Nat) (ds : List D), x < 2 ^ (n * cnt) → x < 2 ^ 30 → L + cnt ≤ ds.length → ds.length ≤ 1000 →
    SpecO C (k + cnt) ((i2d C.w.params).D (Str.ofString "_int2digits.<locals>.inner") clos) clos [(Str.ofString "a_digits", .val (.ref a)), (Str.ofString "inner", (i2d C.w.params).D (Str.ofString "_int2digits.<locals>.inner") clos), (Str.ofString "n", .int n)]
      [.int x, .int L, .int ((L + cnt : Nat) : Int)] a (.list ds) (.list (ds.take L ++ (digs n x cnt).map D.int ++ ds.drop (L + cnt))) := by
  have eI : (i2d C.w.params) = i2d C.w.params := rfl
  conv at eI => rhs; whnf
  rw [eI]
  clear eI
  intro cnt
  induction cnt using Nat.strongRecOn with
  | ind cnt ih =>
  intro hc hc2 x L ds hx hx30 hL hds b f μ₀ env cs ρ s A Q E fv vs F rm rf cl ra ret
  rcases ra with ⟨h1, ⟨h2, ⟨h3, ⟨⟩⟩⟩⟩
  rename_i v1 v2 v3
  obtain ⟨w, doc, pm, cdv, ct, rfl, fo⟩ := fnOk_of (vals := [v1, v2, v3]) [(Str.ofString "x", v1, .int x), (Str.ofString "L", v2, .int L), (Str.ofString "R", v3, .int ((L + cnt : Nat) : Int))] rf (fun _ _ _ _ => rfl) rfl rfl rfl rfl rfl rfl ⟨h1, h2, h3, trivial⟩ cl rfl
  obtain ⟨c, rfl⟩ : ∃ c, cnt = c + 1 := ⟨cnt - 1, by lia⟩
  refine enterO (own' := [(a, .list (ds.take L ++ (digs n x (c + 1)).map D.int ++ ds.drop (L + (c + 1))))]) F rm fo rfl rfl (fun b' μ' L' s₁ A' E' F₁ rm₁ => ?_) ret
  have hE := F₁.envF
  refine x_if F₁ rm₁ (evb_compare (ev_binop (ev_name rfl) ev_int b_add) (ev_name rfl) c_eq) (fun h0 s₂ F₂ => ?_) (fun h0 s₂ F₂ => ?_)
  · have h0' : c = 0 := by simp at h0; lia
    subst h0'
    refine x_setL (i := (L : Int)) F₂ rm₁ rfl (ev_name rfl) (ev_name rfl) (by lia) (by lia) (by lia) fun s₃ F₃ => x_returnNone ?_
    have e1 : ds.set (L : Int).toNat (.int x) = ds.take L ++ (digs n x 1).map D.int ++ ds.drop (L + 1) := by
      have : x % 2 ^ n = x := Nat.mod_eq_of_lt (by simpa using hx)
      rw [Int.toNat_natCast, List.set_eq_take_append_cons_drop, if_pos (by lia)]
      simp [digs, this]
    rw [e1] at F₃
    exact ⟨rfl, _, F₃⟩
  · have h0' : 0 < c := by simp at h0; lia
    obtain ⟨m, hm⟩ : ∃ m, m = (c + 1) / 2 := ⟨_, rfl⟩
    have hm1 : 0 < m := by lia
    have hm2 : m ≤ c := by lia
    have em : ((L : Int) + ((L + (c + 1) : Nat) : Int)).fdiv (2 ^ (1 : Int).toNat) = ((L + m : Nat) : Int) := by
      have := fdiv_nat (L + (L + (c + 1))) 2
      rw [Int.natCast_add] at this
      have e2 : (L + (L + (c + 1))) / 2 = L + m := by lia
      rw [e2] at this
      exact this
    have es : (((L + m : Nat) : Int) - (L : Int)) * (n : Int) = ((n * m : Nat) : Int) := by
      rw [Int.natCast_add, Int.natCast_mul, Int.mul_comm]; congr 1; lia
    obtain ⟨u, hu⟩ : ∃ u, u = x / 2 ^ (n * m) := ⟨_, rfl⟩
    obtain ⟨l, hl⟩ : ∃ l, l = x % 2 ^ (n * m) := ⟨_, rfl⟩
    have eu : (x : Int).fdiv (2 ^ ((n * m : Nat) : Int).toNat) = (u : Int) := by rw [Int.toNat_natCast, hu]; exact fdiv_pow x _
    have el : Builtin.bitXor (x : Int) ((u : Int) * 2 ^ ((n * m : Nat) : Int).toNat) = (l : Int) := by rw [Int.toNat_natCast, hu, hl]; exact xor_high x _
    have hnm : n * m ≤ 20 * 1000 := Nat.mul_le_mul hn2 (by lia)
    have hdiv : u ≤ x := hu ▸ Nat.div_le_self _ _
    have hmod : l ≤ x := hl ▸ Nat.mod_le _ _
    have hlt : l < 2 ^ (n * m) := hl ▸ Nat.mod_lt _ (Nat.two_pow_pos _)
    have rm₂ : Room (k + c) A' := rm₁
    refine x_nil ?_
    refine x_assign F₂ rm₁ (ev_binop (ev_binop (ev_name rfl) (ev_name rfl) b_add) ev_int (b_shr (by decide))) (.inl rfl) fun s₃ F₃ => ?_
    rw [em] at F₃
    refine x_assign F₃ rm₁ (ev_binop (ev_binop (ev_name rfl) (ev_name rfl) b_sub) (ev_name rfl) (b_mul (mulOk (by lia)))) (.inl rfl) fun s₄ F₄ => ?_
    rw [es] at F₄
    refine x_assign F₄ rm₁ (ev_binop (ev_name rfl) (ev_name rfl) (b_shr (by lia))) (.inl rfl) fun s₅ F₅ => ?_
    rw [eu] at F₅
    refine x_assign F₅ rm₁ (ev_binop (ev_name rfl) (ev_binop (ev_name rfl) (ev_name rfl) (b_shl (by lia) (by lia) (by lia))) b_xor) (.inl rfl) fun s₆ F₆ => ?_
    rw [el] at F₆
    have i1 := ih m (by lia) hm1 (by lia) l L ds hlt (by lia) (by lia) hds
    refine x_callO F₆ rm₂ rfl (evl_cons (ev_name rfl) (evl_cons (ev_name rfl) (evl_cons (ev_name rfl) evl_nil))) ?_ ?_ (i1.le (by lia)) fun s₇ F₇ => ?_
    · exact ⟨rfl, rfl, rfl, trivial⟩
    · exact ⟨⟨.inr rfl, rfl⟩, ⟨.inr rfl, rfl⟩, ⟨.inr rfl, rfl⟩, trivial⟩
    have hx2 : u < 2 ^ (n * (c + 1 - m)) := by
      rw [hu]
      apply Nat.div_lt_of_lt_mul
      rw [← Nat.pow_add, ← Nat.mul_add]
      rwa [show m + (c + 1 - m) = c + 1 by lia]
    have i2 := ih (c + 1 - m) (by lia) (by lia) (by lia) u (L + m) (ds.take L ++ (digs n l m).map D.int ++ ds.drop (L + m)) hx2 (by lia) (by
      simp only [List.length_append, List.length_take, List.length_map, digs_len, List.length_drop]; lia) (by
      simp only [List.length_append, List.length_take, List.length_map, digs_len, List.length_drop]; lia)
    rw [show L + m + (c + 1 - m) = L + (c + 1) by lia] at i2
    refine x_callO F₇ rm₂ rfl (evl_cons (ev_name rfl) (evl_cons (ev_name rfl) (evl_cons (ev_name rfl) evl_nil))) ?_ ?_ (i2.le (by lia)) fun s₈ F₈ => x_nil ?_
    · exact ⟨rfl, rfl, rfl, trivial⟩
    · exact ⟨⟨.inr rfl, rfl⟩, ⟨.inr rfl, rfl⟩, ⟨.inr rfl, rfl⟩, trivial⟩
    have e9 := ds_split ds ((digs n l m).map D.int) ((digs n u (c + 1 - m)).map D.int) L m (c + 1 - m) (by lia) (by rw [List.length_map, digs_len])
    have e10 : digs n l m ++ digs n u (c + 1 - m) = digs n x (c + 1) := by
      rw [hl, hu, digs_mod, ← digs_app, show m + (c + 1 - m) = c + 1 by lia]
    rw [show L + m + (c + 1 - m) = L + (c + 1) by lia, show m + (c + 1 - m) = c + 1 by lia, ← List.map_append, e10] at e9
    rw [e9] at F₈
    exact ⟨rfl, _, F₈⟩
end
end Mine

open PySem PySem.W PyProof.Rows PySem.Spec PySem.Calls
set_option Elab.async false
set_option maxRecDepth 100000
set_option linter.unusedVariables false
namespace Mine
section
variable {C : Cx} {k : Nat}

noncomputable def nDigs (a n : Nat) : Nat := (Builtin.Int.intBits (a : Int) + n - 1) / n
theorem nDigs_ok (a n : Nat) (hn : 0 < n) : a < 2 ^ (n * nDigs a n) := by
  refine Nat.lt_of_lt_of_le (bits_lt a) (Nat.pow_le_pow_right (by decide) ?_)
  unfold nDigs
  generalize Builtin.Int.intBits (a : Int) = b
  have h1 := Nat.div_add_mod (b + n - 1) n
  have h2 := Nat.mod_lt (b + n - 1) hn
  generalize n * ((b + n - 1) / n) = q at *
  lia
theorem nDigs_le {a n : Nat} (ha : a < 2 ^ 30) (hn : 0 < n) : nDigs a n ≤ 30 := by
  have h1 := bits_le ha
  unfold nDigs
  generalize Builtin.Int.intBits (a : Int) = b at *
  have h2 := Nat.div_add_mod (b + n - 1) n
  have h3 : (b + n - 1) / n ≤ b := by
    rcases Nat.eq_zero_or_pos b with rfl | hb
    · rw [Nat.div_eq_of_lt (by lia)]; exact Nat.le_refl _
    · apply Nat.div_le_of_le_mul
      obtain ⟨m, rfl⟩ : ∃ m, n = m + 1 := ⟨n - 1, by lia⟩
      rw [Nat.add_mul, Nat.one_mul]
      have : m ≤ m * b := Nat.le_mul_of_pos_right _ hb
      lia
  lia

set_option maxHeartbeats 2000000 in
theorem int2digits_ok {a n : Nat} (ha : a < 2 ^ 30) (hn : 0 < n) (hn2 : n ≤ 20) : Fn C (k + 40) (.ref 49) [.int a, .int n] (.list ((digs n a (nDigs a n)).map D.int)) := by
  rintro vs μ A s Q E G ⟨⟩ rm ret
  rename_i v vs h r
  rcases r with ⟨h2, ⟨⟩⟩
  rename_i v2
  have hbits := bits_le ha
  refine enter [(Str.ofString "a", v, .int a), (Str.ofString "n", v2, .int n)] G rm rfl rfl rfl rfl rfl rfl rfl (by decide) rfl rfl rfl rfl rfl ⟨h, h2, trivial⟩ (fun L s₁ A' E' F rm' => ?_) ret
  have hE := F.envF
  have hen : ((Builtin.Int.intBits (a : Int) : Int) + (n : Int) - 1).fdiv (n : Int) = (nDigs a n : Int) := by
    have := fdiv_nat (Builtin.Int.intBits (a : Int) + n - 1) n
    rw [← show ((Builtin.Int.intBits (a : Int) + n - 1 : Nat) : Int) = (Builtin.Int.intBits (a : Int) : Int) + (n : Int) - 1 by lia]
    exact this
  have hmn := nDigs_le ha hn
  refine x_newRepeat (n := (nDigs a n : Int)) (d := .int 0) F rm' (ev_list (evl_cons ev_int evl_nil)) (hen ▸ ev_binop (ev_binop (ev_binop (ev_bitlen (ev_name rfl)) (ev_name rfl) b_add) ev_int b_sub) (ev_name rfl) (b_fdiv (by lia) (by lia))) (by lia) (by lia) (.inr ⟨rfl, _, rfl⟩) fun w s₂ F₂ => ?_
  refine x_def (48, 44, Str.ofString "_int2digits.<locals>.inner") (by decide) F₂ rm' rfl rfl (closure_ok rfl) (.inr ⟨rfl, _, rfl⟩) (fun s₃ F₃ => ?_)
  rw [Int.toNat_natCast] at F₃
  refine x_if F₃ rm' (evb_of (ev_name rfl) t_int) (fun hc s₄ F₄ => ?_) (fun hc s₄ F₄ => ?_)
  · have ha0 : a ≠ 0 := by simpa using hc
    have hm0 : 0 < nDigs a n := by
      rcases Nat.eq_zero_or_pos (nDigs a n) with h0 | h0
      · have := nDigs_ok a n hn
        rw [h0] at this
        simp at this
        lia
      · exact h0
    have sp := fun clos => i2d_inner (C := C) (k := k) hn hn2 w clos (nDigs a n) hm0 (by lia) a 0 (List.replicate (nDigs a n) (.int 0)) (nDigs_ok a n hn) ha (by simp) (by simp; lia)
    have eI : (i2d C.w.params) = i2d C.w.params := rfl
    conv at eI => rhs; whnf
    rw [eI, Nat.zero_add] at sp
    clear eI
    have e0 : ((List.replicate (nDigs a n) (D.int 0)).length : Int) = (nDigs a n : Int) := by simp
    refine x_callO F₄ rm' rfl (evl_cons (ev_name rfl) (evl_cons ev_int (evl_cons (ev_own (x := Str.ofString "a_digits") rfl (e0 ▸ ev_call (ev_builtin hE rfl rfl bb_len) (evl_cons (ev_name rfl) evl_nil) kp_builtin (f_len (by simp; lia))) own_int) evl_nil))) ?_ ?_ ((sp _).le (by lia)) fun s₅ F₅ => ?_
    · exact ⟨rfl, rfl, rfl, trivial⟩
    · exact ⟨⟨.inl rfl, rfl⟩, ⟨.inl rfl, rfl⟩, ⟨.inl rfl, rfl⟩, trivial⟩
    refine x_nil ?_
    refine x_return F₅ rm' (ev_name rfl) fun v s' F' r => ?_
    cases r
    have := F'.retOwn (List.mem_singleton.mpr rfl)
    rw [List.take_zero, List.nil_append, List.drop_eq_nil_of_le (by simp), List.append_nil] at this
    exact this
  · have ha0 : a = 0 := by simpa using hc
    subst ha0
    have hm0 : nDigs 0 n = 0 := by
      unfold nDigs
      rw [show Builtin.Int.intBits ((0 : Nat) : Int) = 0 from rfl]
      exact Nat.div_eq_of_lt (by lia)
    rw [hm0] at F₄ ⊢
    refine x_nil ?_
    refine x_return F₄ rm' (ev_name rfl) fun v s' F' r => ?_
    cases r
    exact F'.retOwn (List.mem_singleton.mpr rfl)
end
end Mine

open PySem PySem.W PyProof.Rows PySem.Spec PySem.Calls
set_option Elab.async false
set_option maxRecDepth 100000
set_option linter.unusedVariables false
namespace Mine
theorem undigs_bd (n : Nat) : ∀ (l : List Int), (∀ x ∈ l, 0 ≤ x ∧ x < 2 ^ n) → 0 ≤ undigs n l ∧ undigs n l < 2 ^ (n * l.length)
  | [], _ => by simp [undigs]
  | x :: l, h => by
    obtain ⟨h1, h2⟩ := undigs_bd n l fun y hy => h y (List.mem_cons_of_mem _ hy)
    obtain ⟨h3, h4⟩ := h x (List.mem_cons_self ..)
    simp only [undigs, List.length_cons]
    have hp : (0 : Int) < 2 ^ n := Int.pow_pos (by decide)
    have e : (2 : Int) ^ (n * (l.length + 1)) = 2 ^ n * 2 ^ (n * l.length) := by rw [← Int.pow_add]; congr 1; rw [Nat.mul_add]; lia
    rw [e]
    refine ⟨Int.add_nonneg h3 (Int.mul_nonneg (Int.le_of_lt hp) h1), ?_⟩
    have h5 : 2 ^ n * undigs n l ≤ 2 ^ n * (2 ^ (n * l.length) - 1) := Int.mul_le_mul_of_nonneg_left (by lia) (Int.le_of_lt hp)
    rw [Int.mul_sub, Int.mul_one] at h5
    lia

noncomputable def d2i (p : Params) : InDef := inDef (hd.heap_39 p) 56 0

section
variable {C : Cx} {k : Nat}

set_option maxHeartbeats 2000000 in
theorem d2i_inner {n : Nat} (hn : 0 < n) (hn2 : n ≤ 20) (l : List Int) (hl : ∀ x ∈ l, 0 ≤ x ∧ x < 2 ^ n) (hlen : n * l.length ≤ 60) (clos : List (Str × Addr)) : ∀ (cnt : Nat), 0 < cnt → ∀ (L : Nat), L + cnt ≤ l.length →
    FnC C (k + cnt) ((d2i C.w.params).D (Str.ofString "_digits2int.<locals>.inner") clos) clos [(Str.ofString "digits", .list (l.map D.int)), (Str.ofString "inner", (d2i C.w.params).D (Str.ofString "_digits2int.<locals>.inner") clos), (Str.ofString "n", .int n)]
      [.int L, .int ((L + cnt : Nat) : Int)] (.int (undigs n ((l.drop L).take cnt))) := by
  have eI : (d2i C.w.params) = d2i C.w.params := rfl
  conv at eI => rhs; whnf
  rw [eI]
  clear eI
  have hll : l.length ≤ 60 := Nat.le_trans (Nat.le_mul_of_pos_left _ hn) hlen
  intro cnt
  induction cnt using Nat.strongRecOn with
  | ind cnt ih =>
  intro hc L hL fv vs μ A s Q E G ⟨rf, cl, ra⟩ rm ret
  rcases ra with ⟨h1, ⟨h2, ⟨⟩⟩⟩
  rename_i v1 v2
  obtain ⟨w, doc, pm, cdv, ct, rfl, fo⟩ := fnOk_of (vals := [v1, v2]) [(Str.ofString "L", v1, .int L), (Str.ofString "R", v2, .int ((L + cnt : Nat) : Int))] rf (fun _ _ _ _ => rfl) rfl rfl rfl rfl rfl rfl ⟨h1, h2, trivial⟩ cl rfl
  obtain ⟨c, rfl⟩ : ∃ c, cnt = c + 1 := ⟨cnt - 1, by lia⟩
  refine enterP G rm fo rfl (fun L' s₁ A' E' F₁ rm₁ => ?_) ret
  have hE := F₁.envF
  refine x_if F₁ rm₁ (evb_compare (ev_binop (ev_name rfl) ev_int b_add) (ev_name rfl) c_eq) (fun h0 s₂ F₂ => ?_) (fun h0 s₂ F₂ => ?_)
  · have h0' : c = 0 := by simp at h0; lia
    subst h0'
    have e1 : undigs n ((l.drop L).take 1) = l[L]'(by lia) := by
      rw [List.drop_eq_getElem_cons (by lia), List.take_succ_cons, List.take_zero]
      show l[L] + 2 ^ n * 0 = l[L]
      lia
    refine x_return F₂ rm₁ (d := .int (l[L]'(by lia))) (ev_sub (ev_name rfl) (ev_name rfl) (sub_list (by lia) (by lia) ?_)) fun v s' F' r => ?_
    · rw [Int.toNat_natCast, List.getElem?_map, List.getElem?_eq_getElem (by lia)]; rfl
    · rw [e1]; exact F'.ret r
  · have h0' : 0 < c := by simp at h0; lia
    obtain ⟨m, hm⟩ : ∃ m, m = (c + 1) / 2 := ⟨_, rfl⟩
    have hm1 : 0 < m := by lia
    have hm2 : m ≤ c := by lia
    have em : ((L : Int) + ((L + (c + 1) : Nat) : Int)).fdiv (2 ^ (1 : Int).toNat) = ((L + m : Nat) : Int) := by
      have := fdiv_nat (L + (L + (c + 1))) 2
      rw [Int.natCast_add] at this
      have e2 : (L + (L + (c + 1))) / 2 = L + m := by lia
      rw [e2] at this
      exact this
    have es : (((L + m : Nat) : Int) - (L : Int)) * (n : Int) = ((n * m : Nat) : Int) := by
      rw [Int.natCast_add, Int.natCast_mul, Int.mul_comm]; congr 1; lia
    have rm₂ : Room (k + c) A' := rm₁
    have hnm : n * m ≤ 60 := Nat.le_trans (Nat.mul_le_mul_left _ (by lia)) hlen
    refine x_nil ?_
    refine x_assign F₂ rm₁ (ev_binop (ev_binop (ev_name rfl) (ev_name rfl) b_add) ev_int (b_shr (by decide))) (.inl rfl) fun s₃ F₃ => ?_
    rw [em] at F₃
    refine x_assign F₃ rm₁ (ev_binop (ev_binop (ev_name rfl) (ev_name rfl) b_sub) (ev_name rfl) (b_mul (mulOk (by lia)))) (.inl rfl) fun s₄ F₄ => ?_
    rw [es] at F₄
    have i1 := ih (c + 1 - m) (by lia) (by lia) (L + m) (by lia)
    rw [show L + m + (c + 1 - m) = L + (c + 1) by lia] at i1
    have i2 := ih m (by lia) hm1 L (by lia)
    obtain ⟨u, hu⟩ : ∃ u, u = undigs n ((l.drop (L + m)).take (c + 1 - m)) := ⟨_, rfl⟩
    obtain ⟨z, hz⟩ : ∃ z, z = undigs n ((l.drop L).take m) := ⟨_, rfl⟩
    rw [← hu] at i1
    rw [← hz] at i2
    have hub : u.natAbs < 2 ^ 64 := by
      obtain ⟨q1, q2⟩ := undigs_bd n ((l.drop (L + m)).take (c + 1 - m)) fun x hx => hl x (List.mem_of_mem_drop (List.mem_of_mem_take hx))
      rw [← hu] at q1 q2
      have q3 : ((l.drop (L + m)).take (c + 1 - m)).length ≤ l.length := by
        rw [List.length_take, List.length_drop]; lia
      have q4 : n * ((l.drop (L + m)).take (c + 1 - m)).length ≤ 60 := Nat.le_trans (Nat.mul_le_mul_left _ q3) hlen
      have q5 : (2 : Int) ^ (n * ((l.drop (L + m)).take (c + 1 - m)).length) ≤ 2 ^ 60 := by
        have q6 := Int.ofNat_le.mpr (Nat.pow_le_pow_right (n := 2) (by decide) q4)
        rw [Int.natCast_pow, Int.natCast_pow] at q6
        exact q6
      lia
    have ef : u * 2 ^ ((n * m : Nat) : Int).toNat + z = undigs n ((l.drop L).take (c + 1)) := by
      rw [Int.toNat_natCast, show c + 1 = m + (c + 1 - m) by lia, List.take_add, undigs_app, List.drop_drop, ← hz, ← hu, List.length_take, List.length_drop, Nat.min_eq_left (by lia)]
      rw [Int.mul_comm]; lia
    rw [← ef]
    have j1 : FnC C (k + c) _ clos _ _ _ := fun fv vs => (i1 fv vs).le (by lia)
    have j2 : FnC C (k + c) _ clos _ _ _ := fun fv vs => (i2 fv vs).le (by lia)
    refine x_return F₄ rm₂ (ev_binop (ev_binop (ev_callF (ev_name rfl) (evl_cons (ev_name rfl) (evl_cons (ev_name rfl) evl_nil)) ?_ ?_ j1) (ev_name rfl) (b_shl (by lia) (by lia) hub)) (ev_callF (ev_name rfl) (evl_cons (ev_name rfl) (evl_cons (ev_name rfl) evl_nil)) ?_ ?_ j2) b_add) fun v s' F' r => F'.ret r
    · exact ⟨rfl, rfl, rfl, trivial⟩
    · exact ⟨⟨.inr rfl, rfl⟩, ⟨.inr rfl, rfl⟩, ⟨.inr rfl, rfl⟩, trivial⟩
    · exact ⟨rfl, rfl, rfl, trivial⟩
    · exact ⟨⟨.inr rfl, rfl⟩, ⟨.inr rfl, rfl⟩, ⟨.inr rfl, rfl⟩, trivial⟩

set_option maxHeartbeats 2000000 in
theorem digits2int_ok {n : Nat} (hn : 0 < n) (hn2 : n ≤ 20) (l : List Int) (hl : ∀ x ∈ l, 0 ≤ x ∧ x < 2 ^ n) (hlen : n * l.length ≤ 60) : Fn C (k + 80) (.ref 56) [.list (l.map D.int), .int n] (.int (undigs n l)) := by
  rintro vs μ A s Q E G ⟨⟩ rm ret
  rename_i v vs h r
  rcases r with ⟨h2, ⟨⟩⟩
  rename_i v2
  have hll : l.length ≤ 60 := Nat.le_trans (Nat.le_mul_of_pos_left _ hn) hlen
  refine enter [(Str.ofString "digits", v, .list (l.map D.int)), (Str.ofString "n", v2, .int n)] G rm rfl rfl rfl rfl rfl rfl rfl (by decide) rfl rfl rfl rfl rfl ⟨h, h2, trivial⟩ (fun L s₁ A' E' F rm' => ?_) ret
  have hE := F.envF
  refine x_def (55, 51, Str.ofString "_digits2int.<locals>.inner") (by decide) F rm' rfl rfl (closure_ok rfl) (.inr ⟨rfl, _, rfl⟩) (fun s₃ F₃ => ?_)
  have eI : (d2i C.w.params) = d2i C.w.params := rfl
  conv at eI => rhs; whnf
  refine x_return F₃ rm' (d := .int (undigs n l)) (ev_ifexp (evb_of (ev_name rfl) (t_list (by simp; lia))) (fun hc => ?_) (fun hc => ?_)) fun v s' F' r => F'.ret r
  · have h0 : 0 < l.length := by
      cases l with
      | nil => simp at hc
      | cons x l => simp
    have sp := fun clos => d2i_inner (C := C) (k := k) hn hn2 l hl hlen clos l.length h0 0 (by lia)
    rw [eI, Nat.zero_add, List.drop_zero, List.take_length] at sp
    clear eI
    have e0 : ((l.map D.int).length : Int) = (l.length : Int) := by simp
    have j : ∀ clos, FnC C (k + 79) _ clos _ _ _ := fun clos fv vs => (sp clos fv vs).le (by lia)
    refine ev_callF (ev_name rfl) (evl_cons ev_int (evl_cons (e0 ▸ ev_call (ev_builtin hE rfl rfl bb_len) (evl_cons (ev_name rfl) evl_nil) kp_builtin (f_len (by simp; lia))) evl_nil)) ?_ ?_ (j _)
    · exact ⟨rfl, rfl, rfl, trivial⟩
    · exact ⟨⟨.inl rfl, rfl⟩, ⟨.inl rfl, rfl⟩, ⟨.inl rfl, rfl⟩, trivial⟩
  · have h0 : l = [] := by
      cases l with
      | nil => rfl
      | cons x l => simp at hc
    subst h0
    exact ev_int
end
end Mine

open PySem PySem.W PyProof.Rows PySem.Spec PySem.Calls
set_option Elab.async false
set_option maxRecDepth 100000
set_option linter.unusedVariables false
namespace Mine
section
variable {C : Cx} {k : Nat}

theorem div2n1n_ok {a b n : Nat} (ha : a < 2 ^ 60) (hb : 0 < b) (hb2 : b < 2 ^ 20) : Fn C (k + 1) (.ref 35) [.int a, .int b, .int n] (.tup [.int ((a / b : Nat) : Int), .int ((a % b : Nat) : Int)]) := by
  rintro vs μ A s Q E G ⟨⟩ rm ret
  rename_i v vs h r
  rcases r with ⟨h2, ⟨h3, ⟨⟩⟩⟩
  rename_i v2 v3
  refine enter [(Str.ofString "a", v, .int a), (Str.ofString "b", v2, .int b), (Str.ofString "n", v3, .int n)] G rm rfl rfl rfl rfl rfl rfl rfl (by decide) rfl rfl rfl rfl rfl ⟨h, h2, h3, trivial⟩ (fun L s₁ A' E' F rm' => ?_) ret
  have hE := F.envF
  have hbits := bits_le ha
  refine x_if F rm' (evb_compare (ev_binop (ev_bitlen (ev_name rfl)) (ev_name rfl) b_sub) (ev_global_int hE rfl rfl) c_le) (fun hc s₂ F₂ => ?_) (fun hc s₂ F₂ => ?_)
  · refine x_return F₂ rm' (ev_call (ev_builtin hE rfl rfl bb_divmod) (evl_cons (ev_name rfl) (evl_cons (ev_name rfl) evl_nil)) kp_builtin (f_divmod (by lia) (by lia))) fun v s' F' r => ?_
    have := F'.ret r
    rw [fdiv_nat, fmod_nat] at this
    exact this
  · exfalso
    simp at hc
    lia
end

noncomputable def dstep (n b : Nat) (st : List Int × Nat) (d : Int) : List Int × Nat := (st.1 ++ [(((st.2 * 2 ^ n + d.toNat) / b : Nat) : Int)], (st.2 * 2 ^ n + d.toNat) % b)
noncomputable def dloop (n b : Nat) (l : List Int) : List Int × Nat := l.foldl (dstep n b) ([], 0)
theorem dloop_snoc (n b : Nat) (l : List Int) (d : Int) : dloop n b (l ++ [d]) = dstep n b (dloop n b l) d := by unfold dloop; rw [List.foldl_append]; rfl

theorem dloop_inv (n b : Nat) (hb : 0 < b) (hbn : b ≤ 2 ^ n) (l : List Int) (hl : ∀ x ∈ l, 0 ≤ x ∧ x < 2 ^ n) :
    (dloop n b l).2 < b ∧ (dloop n b l).1.length = l.length ∧ (∀ x ∈ (dloop n b l).1, 0 ≤ x ∧ x < 2 ^ n) ∧ undigs n (dloop n b l).1.reverse * b + (dloop n b l).2 = undigs n l.reverse := by
  have key : ∀ (r : List Int), (∀ x ∈ r, 0 ≤ x ∧ x < 2 ^ n) → (dloop n b r.reverse).2 < b ∧ (dloop n b r.reverse).1.length = r.reverse.length ∧ (∀ x ∈ (dloop n b r.reverse).1, 0 ≤ x ∧ x < 2 ^ n) ∧ undigs n (dloop n b r.reverse).1.reverse * b + (dloop n b r.reverse).2 = undigs n r := by
    intro r
    induction r with
    | nil => intro _; exact ⟨hb, rfl, fun x hx => (nomatch hx), by simp [dloop, undigs]⟩
    | cons d r ih =>
      intro h
      obtain ⟨i1, i2, i3, i4⟩ := ih fun x hx => h x (List.mem_cons_of_mem _ hx)
      obtain ⟨d0, d1⟩ := h d (List.mem_cons_self ..)
      rw [List.reverse_cons, dloop_snoc]
      generalize dloop n b r.reverse = st at *
      obtain ⟨qs, w⟩ := st
      simp only [dstep] at *
      obtain ⟨e, he⟩ : ∃ e : Nat, d = (e : Int) := ⟨d.toNat, by lia⟩
      subst he
      have hp : ((2 : Int) ^ n) = ((2 ^ n : Nat) : Int) := by rw [Int.natCast_pow]; rfl
      rw [Int.toNat_natCast]
      have d1' : e < 2 ^ n := by rw [hp] at d1; lia
      refine ⟨Nat.mod_lt _ hb, by simp [i2], ?_, ?_⟩
      · intro x hx
        rcases List.mem_append.mp hx with hx | hx
        · exact i3 x hx
        · rw [List.mem_singleton.mp hx]
          refine ⟨Int.natCast_nonneg _, ?_⟩
          rw [hp]
          have : (w * 2 ^ n + e) / b < 2 ^ n := by
            apply Nat.div_lt_of_lt_mul
            calc w * 2 ^ n + e < w * 2 ^ n + 2 ^ n := by lia
              _ = (w + 1) * 2 ^ n := by rw [Nat.add_mul, Nat.one_mul]
              _ ≤ b * 2 ^ n := Nat.mul_le_mul_right _ i1
          exact Int.ofNat_lt.mpr this
      · rw [List.reverse_append, List.reverse_singleton, List.singleton_append]
        simp only [undigs]
        have hm := Nat.div_add_mod (w * 2 ^ n + e) b
        generalize hq : (w * 2 ^ n + e) / b = q at *
        generalize hr : (w * 2 ^ n + e) % b = t at *
        have hm' : ((b * q + t : Nat) : Int) = ((w * 2 ^ n + e : Nat) : Int) := by rw [hm]
        rw [Int.natCast_add, Int.natCast_add, Int.natCast_mul, Int.natCast_mul] at hm'
        rw [hp, ← i4]
        generalize ((2 ^ n : Nat) : Int) = P at *
        generalize undigs n qs.reverse = u at *
        rw [Int.add_mul, Int.mul_add]
        have c1 : P * u * (b : Int) = P * (u * b) := Int.mul_assoc ..
        have c2 : (q : Int) * b = b * q := Int.mul_comm ..
        have c3 : P * (w : Int) = w * P := Int.mul_comm ..
        lia
  have := key l.reverse fun x hx => hl x (List.mem_reverse.mp hx)
  rw [List.reverse_reverse] at this
  exact this

theorem digs_bd (n : Nat) : ∀ (c x : Nat), ∀ y ∈ digs n x c, 0 ≤ y ∧ y < 2 ^ n
  | 0, _, y, h => nomatch h
  | c + 1, x, y, h => by
    rcases List.mem_cons.mp h with rfl | h
    · have : x % 2 ^ n < 2 ^ n := Nat.mod_lt _ (Nat.two_pow_pos _)
      have hp : ((2 : Int) ^ n) = ((2 ^ n : Nat) : Int) := by rw [Int.natCast_pow]; rfl
      rw [hp]; lia
    · exact digs_bd n c _ y h

section
variable {C : Cx} {k : Nat}
set_option maxHeartbeats 2000000 in
theorem divmod_pos_ok {a b : Nat} (ha : a < 2 ^ 30) (hb : 0 < b) (hb2 : b < 2 ^ 10) : Fn C (k + 90) (.ref 63) [.int a, .int b] (.tup [.int ((a / b : Nat) : Int), .int ((a % b : Nat) : Int)]) := by
  rintro vs μ A s Q E G ⟨⟩ rm ret
  rename_i v vs h r
  rcases r with ⟨h2, ⟨⟩⟩
  rename_i v2
  refine enter [(Str.ofString "a", v, .int a), (Str.ofString "b", v2, .int b)] G rm rfl rfl rfl rfl rfl rfl rfl (by decide) rfl rfl rfl rfl rfl ⟨h, h2, trivial⟩ (fun L s₁ A' E' F rm' => ?_) ret
  have hE := F.envF
  obtain ⟨n, hn⟩ : ∃ n, n = Builtin.Int.intBits (b : Int) := ⟨_, rfl⟩
  have hn10 : n ≤ 10 := hn ▸ bits_le hb2
  have hbn : b < 2 ^ n := hn ▸ bits_lt b
  have hn0 : 0 < n := by
    rcases Nat.eq_zero_or_pos n with h0 | h0
    · rw [h0] at hbn; simp at hbn; lia
    · exact h0
  refine x_assign F rm' (ev_bitlen (ev_name rfl)) (.inl rfl) fun s₂ F₂ => ?_
  rw [← hn] at F₂
  have s1 : Fn C (k + 89) (.ref 49) [.int a, .int n] _ := (int2digits_ok (k := k + 49) ha hn0 (by lia))
  refine x_assign F₂ rm' (ev_call (ev_global hE rfl rfl) (evl_cons (ev_name rfl) (evl_cons (ev_name rfl) evl_nil)) (kp_fn rfl) s1) (.inl rfl) fun s₃ F₃ => ?_
  obtain ⟨m, hm⟩ : ∃ m, m = nDigs a n := ⟨_, rfl⟩
  have hm30 : m ≤ 30 := hm ▸ nDigs_le ha hn0
  have hma : a < 2 ^ (n * m) := hm ▸ nDigs_ok a n hn0
  have hnm : n * m ≤ 40 := by
    have h1 : n * m ≤ Builtin.Int.intBits (a : Int) + n - 1 := hm ▸ Nat.mul_div_le _ _
    have h2 := bits_le ha
    lia
  rw [← hm] at F₃
  refine x_assign F₃ rm' ev_int (.inl rfl) fun s₄ F₄ => ?_
  refine x_newList F₄ (.inl rfl) fun w s₅ F₅ => ?_
  obtain ⟨dr, hdr⟩ : ∃ dr, dr = (digs n a m).reverse := ⟨_, rfl⟩
  have hdl : dr.length = m := by rw [hdr, List.length_reverse, digs_len]
  have hdb : ∀ x ∈ dr, 0 ≤ x ∧ x < 2 ^ n := fun x hx => digs_bd n m a x (List.mem_reverse.mp (hdr ▸ hx))
  have inv := fun i => dloop_inv n b hb (Nat.le_of_lt hbn) (dr.take i) fun x hx => hdb x (List.mem_of_mem_take hx)
  refine x_forI (fun i => [(Str.ofString "b", .int b), (Str.ofString "n", .int n), (Str.ofString "r", .int (dloop n b (dr.take i)).2), (Str.ofString "q_digits", .val (.ref w))]) (fun i => [(w, .list ((dloop n b (dr.take i)).1.map D.int))]) F₅ rm' (ds := dr.map D.int) ?hit (.inl rfl) (fun _ => rfl) rfl (weak_all ⟨rfl, rfl, rfl, rfl, trivial⟩) ?_ ?_
  case hit =>
    rw [hdr, List.map_reverse]
    exact it_rev hE rfl (ev_name rfl)
  · intro i d' hd' b' μ' s' E' F'
    obtain ⟨x, e1, rfl, e2⟩ := map_at hd'
    obtain ⟨x0, x1⟩ := hdb x (List.mem_of_getElem? e1)
    obtain ⟨e, rfl⟩ : ∃ e : Nat, x = (e : Int) := ⟨x.toNat, by lia⟩
    obtain ⟨i1, i2, i3, i4⟩ := inv i
    rw [e2, dloop_snoc]
    generalize dloop n b (dr.take i) = st at *
    obtain ⟨qs, r⟩ := st
    simp only at i1 i2 F'
    have hp : ((2 : Int) ^ n) = ((2 ^ n : Nat) : Int) := by rw [Int.natCast_pow]; rfl
    have hn1024 : 2 ^ n ≤ 2 ^ 10 := Nat.pow_le_pow_right (by decide) hn10
    have x1' : e < 2 ^ n := by rw [hp] at x1; exact Int.ofNat_lt.mp x1
    have hv : r * 2 ^ n + e < 2 ^ 60 := by
      have : r * 2 ^ n ≤ 2 ^ 10 * 2 ^ 10 := Nat.mul_le_mul (by lia) hn1024
      lia
    have ev : (r : Int) * 2 ^ (n : Int).toNat + (e : Int) = ((r * 2 ^ n + e : Nat) : Int) := by
      rw [Int.toNat_natCast, Int.natCast_add, Int.natCast_mul, hp]
    have s2 : Fn C (k + 89) (.ref 35) [.int ((r * 2 ^ n + e : Nat) : Int), .int b, .int n] _ := div2n1n_ok (k := k + 88) hv hb (by lia)
    have hlen : (qs.map D.int).length ≤ 2 ^ 20 := by
      rw [List.length_map, i2, List.length_take]; lia
    refine x_pair F' rm' (ev_call (ev_global hE rfl rfl) (evl_cons (ev ▸ ev_binop (ev_binop (ev_name rfl) (ev_name rfl) (b_shl (by lia) (by lia) (by lia))) (ev_name rfl) b_add) (evl_cons (ev_name rfl) (evl_cons (ev_name rfl) evl_nil))) (kp_fn rfl) s2) (.inl rfl) (.inl rfl) fun s'' F'' => ?_
    refine x_append F'' rm' rfl (ev_name rfl) hlen fun s₃ F₃ => x_nil ⟨rfl, ?_⟩
    have e3 : qs.map D.int ++ [D.int (((r * 2 ^ n + e) / b : Nat) : Int)] = (dstep n b (qs, r) (e : Int)).1.map D.int := by simp [dstep]
    rw [e3] at F₃
    exact F₃.weak (weak_all ⟨rfl, rfl, rfl, rfl, trivial⟩)
  · intro s₆ F₆
    rw [List.length_map] at F₆
    rw [List.take_length] at F₆
    obtain ⟨i1, i2, i3, i4⟩ := inv dr.length
    rw [List.take_length] at i1 i2 i3 i4
    generalize dloop n b dr = st at *
    obtain ⟨qs, r⟩ := st
    simp only at i1 i2 i3 i4 F₆
    refine x_reverse F₆ rm' rfl (by rw [List.length_map]; lia) fun s₇ F₇ => ?_
    rw [← List.map_reverse] at F₇
    have hql : n * qs.reverse.length ≤ 60 := by rw [List.length_reverse, i2, hdl]; lia
    have s3 : Fn C (k + 89) (.ref 56) [.list (qs.reverse.map D.int), .int n] _ := digits2int_ok (k := k + 9) hn0 (by lia) qs.reverse (fun x hx => i3 x (List.mem_reverse.mp hx)) hql
    refine x_assign F₇ rm' (ev_own (x := Str.ofString "q_digits") rfl (ev_call (ev_global hE rfl rfl) (evl_cons (ev_name rfl) (evl_cons (ev_name rfl) evl_nil)) (kp_fn rfl) s3) own_int) (.inl rfl) fun s₈ F₈ => ?_
    have hun : undigs n dr.reverse = (a : Int) := by rw [hdr, List.reverse_reverse]; exact undigs_digs n m a hma
    rw [hun] at i4
    have hu0 := (undigs_bd n qs.reverse (fun x hx => i3 x (List.mem_reverse.mp hx))).1
    obtain ⟨u, hu⟩ : ∃ u : Nat, undigs n qs.reverse = (u : Int) := ⟨(undigs n qs.reverse).toNat, by lia⟩
    rw [hu] at i4 F₈
    have hub : u * b + r = a := by
      have : ((u * b + r : Nat) : Int) = (a : Int) := by rw [Int.natCast_add, Int.natCast_mul]; exact i4
      lia
    have hq : a / b = u := by rw [← hub, Nat.add_comm, Nat.add_mul_div_right _ _ hb, Nat.div_eq_of_lt i1, Nat.zero_add]
    have hr : a % b = r := by rw [← hub, Nat.add_comm, Nat.add_mul_mod_self_right, Nat.mod_eq_of_lt i1]
    rw [hq, hr]
    exact x_return F₈ rm' (ev_tuple (evl_cons (ev_name rfl) (evl_cons (ev_name rfl) evl_nil))) fun v s' F' r => F'.ret r
end
end Mine

open PySem PySem.W PyProof.Rows PySem.Spec PySem.Calls
set_option Elab.async false
set_option maxRecDepth 100000
set_option linter.unusedVariables false
namespace Mine

theorem divmod_unique {a b q r : Int} (hb : 0 < b) (h : r + b * q = a) (h0 : 0 ≤ r) (h1 : r < b) : a.fdiv b = q ∧ a.fmod b = r := by
  rw [Int.fdiv_eq_ediv_of_nonneg _ (by lia), Int.fmod_eq_emod_of_nonneg _ (by lia)]
  exact (Int.ediv_emod_unique hb).mpr ⟨h, h0, h1⟩

theorem divmod_neg (a b : Int) : a.fdiv b = (-a).fdiv (-b) ∧ a.fmod b = -((-a).fmod (-b)) := by
  have h : a.fdiv b = (-a).fdiv (-b) := by rw [Int.neg_fdiv_neg]
  refine ⟨h, ?_⟩
  rw [Int.fmod_def, Int.fmod_def, ← h, Int.neg_mul]
  lia

section
variable {C : Cx} {k : Nat}

set_option maxHeartbeats 1000000 in
theorem idm_pos {a b : Nat} (ha : a < 2 ^ 30) (hb : 0 < b) (hb2 : b < 2 ^ 10) : Fn C (k + 91) (.ref 70) [.int a, .int b] (.tup [.int ((a : Int).fdiv b), .int ((a : Int).fmod b)]) := by
  rintro vs μ A s Q E G ⟨⟩ rm ret
  rename_i v vs h r
  rcases r with ⟨h2, ⟨⟩⟩
  rename_i v2
  refine enter [(Str.ofString "a", v, .int a), (Str.ofString "b", v2, .int b)] G rm rfl rfl rfl rfl rfl rfl rfl (by decide) rfl rfl rfl rfl rfl ⟨h, h2, trivial⟩ (fun L s₁ A' E' F rm' => ?_) ret
  have hE := F.envF
  refine x_if F rm' (evb_compare (ev_name rfl) ev_int c_eq) (fun hc s₂ F₂ => ?_) (fun _ s₂ F₂ => ?_)
  · exfalso; simp at hc; lia
  refine x_if F₂ rm' (evb_compare (ev_name rfl) ev_int c_lt) (fun hc s₃ F₃ => ?_) (fun _ s₃ F₃ => ?_)
  · exfalso; simp at hc; lia
  refine x_if F₃ rm' (evb_compare (ev_name rfl) ev_int c_lt) (fun hc s₄ F₄ => ?_) (fun _ s₄ F₄ => ?_)
  · exfalso; simp at hc; lia
  refine x_return F₄ rm' (ev_call (ev_global hE rfl rfl) (evl_cons (ev_name rfl) (evl_cons (ev_name rfl) evl_nil)) (kp_fn rfl) (divmod_pos_ok ha hb hb2)) fun v s' F' r => ?_
  have := F'.ret r
  rw [fdiv_nat, fmod_nat]
  exact this

set_option maxHeartbeats 1000000 in
theorem idm_neg {a : Int} {b : Nat} (ha : a.natAbs < 2 ^ 29) (hb : 0 < b) (hb2 : b < 2 ^ 10) : Fn C (k + 92) (.ref 70) [.int a, .int b] (.tup [.int (a.fdiv b), .int (a.fmod b)]) := by
  by_cases h0 : 0 ≤ a
  · obtain ⟨n, rfl⟩ : ∃ n : Nat, a = (n : Int) := ⟨a.toNat, by lia⟩
    exact fun vs => (idm_pos (k := k) (by lia) hb hb2 vs).le (by lia)
  rintro vs μ A s Q E G ⟨⟩ rm ret
  rename_i v vs h r
  rcases r with ⟨h2, ⟨⟩⟩
  rename_i v2
  obtain ⟨n, hn⟩ : ∃ n : Nat, a = -(n : Int) - 1 := ⟨(-a - 1).toNat, by lia⟩
  refine enter [(Str.ofString "a", v, .int a), (Str.ofString "b", v2, .int b)] G rm rfl rfl rfl rfl rfl rfl rfl (by decide) rfl rfl rfl rfl rfl ⟨h, h2, trivial⟩ (fun L s₁ A' E' F rm' => ?_) ret
  have hE := F.envF
  refine x_if F rm' (evb_compare (ev_name rfl) ev_int c_eq) (fun hc s₂ F₂ => ?_) (fun _ s₂ F₂ => ?_)
  · exfalso; simp at hc; lia
  refine x_if F₂ rm' (evb_compare (ev_name rfl) ev_int c_lt) (fun hc s₃ F₃ => ?_) (fun _ s₃ F₃ => ?_)
  · exfalso; simp at hc; lia
  refine x_if F₃ rm' (evb_compare (ev_name rfl) ev_int c_lt) (fun _ s₄ F₄ => ?_) (fun hc s₄ F₄ => ?_)
  · have ei : Builtin.bitNot a = (n : Int) := by unfold Builtin.bitNot; lia
    have sp : Fn C (k + 91) (.ref 70) [.int n, .int b] _ := idm_pos (k := k) (a := n) (by lia) hb hb2
    refine x_pair F₄ rm' (ev_call (ev_global hE rfl rfl) (evl_cons (ei ▸ ev_unary (ev_name rfl) u_inv) (evl_cons (ev_name rfl) evl_nil)) (kp_fn rfl) sp) (.inl rfl) (.inl rfl) fun s₅ F₅ => ?_
    refine x_return F₅ rm' (ev_tuple (evl_cons (ev_unary (ev_name rfl) u_inv) (evl_cons (ev_binop (ev_name rfl) (ev_unary (ev_name rfl) u_inv) b_add) evl_nil))) fun v s' F' r => ?_
    have := F'.ret r
    obtain ⟨e1, e2⟩ := divmod_unique (a := a) (b := (b : Int)) (q := Builtin.bitNot ((n : Int).fdiv b)) (r := b + Builtin.bitNot ((n : Int).fmod b)) (by lia) (by
      rw [fdiv_nat, fmod_nat]
      unfold Builtin.bitNot
      have := Nat.div_add_mod n b
      have h3 : ((b * (n / b) + n % b : Nat) : Int) = (n : Int) := by rw [this]
      rw [Int.natCast_add, Int.natCast_mul] at h3
      rw [Int.mul_sub, Int.mul_neg, Int.mul_one]
      lia) (by
      rw [fmod_nat]; unfold Builtin.bitNot
      have := Nat.mod_lt n hb; lia) (by
      rw [fmod_nat]; unfold Builtin.bitNot; lia)
    rw [e1, e2]
    exact this
  · exfalso; simp at hc; lia

set_option maxHeartbeats 1000000 in
theorem int_divmod_ok {a b : Int} (ha : a.natAbs < 2 ^ 29) (hb : b ≠ 0) (hb2 : b.natAbs < 2 ^ 10) : Fn C (k + 93) (.ref 70) [.int a, .int b] (.tup [.int (a.fdiv b), .int (a.fmod b)]) := by
  by_cases h0 : 0 ≤ b
  · obtain ⟨n, rfl⟩ : ∃ n : Nat, b = (n : Int) := ⟨b.toNat, by lia⟩
    exact fun vs => (idm_neg (k := k) ha (by lia) (by lia) vs).le (by lia)
  rintro vs μ A s Q E G ⟨⟩ rm ret
  rename_i v vs h r
  rcases r with ⟨h2, ⟨⟩⟩
  rename_i v2
  obtain ⟨n, hn⟩ : ∃ n : Nat, b = -(n : Int) := ⟨(-b).toNat, by lia⟩
  refine enter [(Str.ofString "a", v, .int a), (Str.ofString "b", v2, .int b)] G rm rfl rfl rfl rfl rfl rfl rfl (by decide) rfl rfl rfl rfl rfl ⟨h, h2, trivial⟩ (fun L s₁ A' E' F rm' => ?_) ret
  have hE := F.envF
  refine x_if F rm' (evb_compare (ev_name rfl) ev_int c_eq) (fun hc s₂ F₂ => ?_) (fun _ s₂ F₂ => ?_)
  · exfalso; simp at hc; lia
  refine x_if F₂ rm' (evb_compare (ev_name rfl) ev_int c_lt) (fun _ s₃ F₃ => ?_) (fun hc s₃ F₃ => ?_)
  · have ei : -b = (n : Int) := by lia
    have sp : Fn C (k + 92) (.ref 70) [.int (-a), .int n] _ := idm_neg (k := k) (a := -a) (b := n) (by lia) (by lia) (by lia)
    refine x_pair F₃ rm' (ev_call (ev_global hE rfl rfl) (evl_cons (ev_unary (ev_name rfl) u_neg) (evl_cons (ei ▸ ev_unary (ev_name rfl) u_neg) evl_nil)) (kp_fn rfl) sp) (.inl rfl) (.inl rfl) fun s₅ F₅ => ?_
    refine x_return F₅ rm' (ev_tuple (evl_cons (ev_name rfl) (evl_cons (ev_unary (ev_name rfl) u_neg) evl_nil))) fun v s' F' r => ?_
    have := F'.ret r
    obtain ⟨e1, e2⟩ := divmod_neg a b
    rw [e1, e2, ei]
    exact this
  · exfalso; simp at hc; lia
end
end Mine

open PySem PySem.W PyProof.Rows PySem.Spec PySem.Calls
set_option Elab.async false
set_option maxRecDepth 100000
set_option linter.unusedVariables false
namespace Mine
section
variable {C : Cx} {k : Nat} {A : Around} {env : Env} {cs clos : List (Str × Addr)} {ρ ρ' ρf : List (Str × D)} {own own' : List (Addr × OD)} {b b' : Heap} {f s s' s₀ : Shared} {μ μ' μ₀ μ₁ W : List Addr} {d d₁ d₂ dk : D} {ds : List D} {h' : Heap} {tk : Nat} {X : SA C} {a : Addr} {od od' : OD}
  {Q : Flow → Shared → Prop} {E : Value → Shared → Prop} {rest : List Stmt}

theorem x_while {σ : Type} {test : Expr} {body : List Stmt} {pos : Pos} (Φ : σ → List (Str × D)) (J : σ → Prop) (m : σ → Nat) (tb : σ → Bool) (σ₀ : σ) (F : Fm C b f μ₀ env cs ρ own s) (rm : Room k A)
    (h0 : ∀ y d, (Φ σ₀).lookup y = some d → ρ.lookup y = some d) (hJ : J σ₀)
    (ht : ∀ σ, J σ → EvB C k env (Φ σ) (OwnX C own) test (tb σ))
    (turn : ∀ σ, J σ → tb σ = true → ∀ s' E', Fm C b f μ₀ env cs (Φ σ) own s' → wpAny (model C.prog C.w) A (execs body env) (fun fl s'' => fl = .next ∧ ∃ σ', m σ' < m σ ∧ J σ' ∧ Fm C b f μ₀ env cs (Φ σ') own s'') E' s')
    (cont : ∀ σ, J σ → tb σ = false → ∀ s', Fm C b f μ₀ env cs (Φ σ) own s' → wpAny (model C.prog C.w) A (execs rest env) Q E s') :
    wpAny (model C.prog C.w) A (execs (.While test body [] pos :: rest) env) Q E s := by
  refine x_cons (wpAny_While ?_)
  refine codeAny_whileLoop (fun n s' => ∃ σ, n = m σ ∧ J σ ∧ Fm C b f μ₀ env cs (Φ σ) own s') ?_ (m σ₀) ⟨σ₀, rfl, hJ, F.weak h0⟩
  rintro n s₁ ⟨σ, rfl, hJσ, F₁⟩
  refine F₁.evb rm (ht σ hJσ) fun s₂ F₂ => ?_
  cases hb : tb σ with
  | true =>
    simp only [if_true]
    refine wpAny_mono (turn σ hJσ hb s₂ _ F₂) (fun fl s₃ h₃ => ?_) fun _ _ e => e
    obtain ⟨rfl, σ', h4, h5, h6⟩ := h₃
    exact ⟨m σ', h4, σ', rfl, h5, h6⟩
  | false =>
    simp only [Bool.false_eq_true, if_false]
    refine wpAny_execs_nil ?_
    exact cont σ hJσ hb s₂ F₂

noncomputable def isNoneD : D → Option Bool
  | .none => some true
  | .int _ => some false
  | .fn .. => some false
  | _ => none
theorem c_is_none {c : Bool} (h : isNoneD d = some c) : Bin C k (compareOp .Is) d .none (.bool c) := by
  rintro v₁ v₂ μ A s Q E G ⟨r1, ⟨⟩⟩ rm ret
  cases d <;> first | (cases h; cases r1; first | (refine is_none_none ?_; exact ret _ s.heap s.toks KH.rfl G (.bool _)) | (refine is_none_ne (by intro x; cases x) ?_; exact ret _ s.heap s.toks KH.rfl G (.bool _))) | (exact nomatch h)

/-- a call with one argument by name -/
noncomputable def FnKw (C : Cx) (k : Nat) (f : Value) (ds : List D) (name : Str) (dk d : D) : Prop := ∀ vs kv, Ok C k (fun μ h => DtL C ds vs μ h ∧ Dt C dk kv μ h) (call f vs [(name, kv)]) (Dt C d)

theorem ev_callKw {func e ke : Expr} {es : List Expr} {pos kp : Pos} {fv : Value} {name : Str} (hf : Ev C k env ρ X func (.val fv)) (ha : EvL C k env ρ X pos (e :: es) ds) (hke : Ev C k env ρ X ke dk) (hk : Kp C fv) (hc : FnKw C k fv ds name dk d)
    (he : eval (.Call func (e :: es) [{ arg := some name, value := ke, pos := kp }] pos) env = (do callWith pos (← eval func env) [] (backTo pos (starEach (e :: es) env)) (backToKw pos (keywordEach [{ arg := some name, value := ke, pos := kp }] env))) := by rfl)
    (hs : starEach (e :: es) env = (false, eval e env) :: starEach es env := by rfl) (hp : (backTo pos (starEach es env)).any (·.1) = false := by rfl)
    (hkw : backToKw pos (keywordEach [{ arg := some name, value := ke, pos := kp }] env) = [(some name, do let v ← eval ke env; standAt pos; pure v)] := by rfl) :
    Ev C k env ρ X (.Call func (e :: es) [{ arg := some name, value := ke, pos := kp }] pos) d := by
  intro μ A s Q E G p rm ret
  rw [he, hkw]
  refine wpAny_bind (hf μ A s _ E G p rm fun fv' h₁ tk₁ k₁ G₁ r₁ => ?_)
  cases r₁
  have ha' := ha μ A { s with heap := h₁, toks := tk₁ } 
  rw [hs] at ha' ⊢
  refine callWith_of (P := fun h => Good C μ h) (by show ((false || (backTo pos (starEach es env)).any (·.1)) || false) = false; rw [hp]; rfl) (fun h G => hk μ h G) (evalArgs_kw rfl ?_)
  have p₁ := Cn.stable _ _ _ G k₁ G₁ p
  refine ha' _ E G₁ p₁ rm fun vs h₂ tk₂ k₂ G₂ r₂ => ?_
  have p₂ := Cn.stable _ _ _ G₁ k₂ G₂ p₁
  refine wpAny_evalAll_cons (wpAny_bind (hke μ A _ _ E G₂ p₂ rm fun kv h₃ tk₃ k₃ G₃ r₃ => wpAny_bind (wpAny_standAt (wpAny_pure (wpAny_evalAll_nil ⟨G₃, ?_⟩)))))
  exact hc vs kv μ A _ _ E G₃ ⟨DtL.stable _ _ _ _ G₂ k₃ G₃ r₂, r₃⟩ rm fun v h' tk k₄ G₄ r₄ => ret v h' tk (((k₁.trans k₂).trans k₃).trans k₄) G₄ r₄

/-- what a def of the text must be to be entered -/
theorem fnOk_K {a : Addr} {oc : Value} {odd : Option Addr} {osl : Array (Option Value)} {fd : FuncData} (args : List (Str × Value × D)) {vals : List Value} {kw : List (Str × Value)} (G : Good C μ s.heap)
    (ho : (hd.heap_39 C.w.params).lookup a = some ⟨oc, odd, .func fd, osl⟩) (hcd : codeIn (hd.heap_39 C.w.params) fd.code fd.qualname = true)
    (hbind : BindsTo s fd ⟨vals, kw⟩ (args.map fun x => (x.1, x.2.1))) (hnd : decide (args.map (·.1)).Nodup = true)
    (hkind : ((args.map fun x => (x.1, x.2.1)).all fun y => fd.scope.names.lookup y.1 == some .local) = true) (hnc : (fd.scope.names.all fun x => x.2 != .cell) = true)
    (hglob : fd.globals = mainGlobals) (hbi : fd.builtins = builtinsNs)
    (hco : fd.scope.isCoroutine = false) (hgen : fd.scope.isGenerator = false) (hk : fd.scope.kind = .function) (hargs : ArgsRep C (hideAll s.heap μ) args) : FnOk C μ s a fd args vals kw [] := by
  have hobj := G.K _ _ ho
  refine ⟨⟨_, hobj, rfl⟩, codeRec_of G.K hcd, hbind, of_decide_eq_true hnd, fun x hx => ?_, fun x hx => ?_, hglob, hbi, hco, hgen, hk, hargs.all, clAt_nil, fun p hp => nomatch hp⟩
  · have := List.all_eq_true.mp hkind _ (List.mem_map.mpr ⟨x, hx, rfl⟩)
    exact eq_of_beq this
  · have := List.all_eq_true.mp hnc x hx
    simpa using this
/-- two ways that meet -/
theorem x_ifJoin {t : Expr} {body orelse : List Stmt} {pos : Pos} {c : Bool} (ρ' : List (Str × D)) (F : Fm C b f μ₀ env cs ρ own s) (rm : Room k A) (ht : EvB C k env ρ (OwnX C own) t c)
    (h1 : c = true → ∀ s' E', Fm C b f μ₀ env cs ρ own s' → wpAny (model C.prog C.w) A (execs body env) (fun fl s'' => fl = .next ∧ Fm C b f μ₀ env cs ρ' own' s'') E' s')
    (h2 : c = false → ∀ s' E', Fm C b f μ₀ env cs ρ own s' → wpAny (model C.prog C.w) A (execs orelse env) (fun fl s'' => fl = .next ∧ Fm C b f μ₀ env cs ρ' own' s'') E' s')
    (cont : ∀ s', Fm C b f μ₀ env cs ρ' own' s' → wpAny (model C.prog C.w) A (execs rest env) Q E s') : wpAny (model C.prog C.w) A (execs (.If t body orelse pos :: rest) env) Q E s := by
  refine x_if F rm ht (fun hc s' F' => ?_) (fun hc s' F' => ?_)
  · refine wpAny_mono (h1 hc s' _ F') (fun fl s'' h => ?_) fun _ _ e => e
    obtain ⟨rfl, F''⟩ := h
    exact cont _ F''
  · refine wpAny_mono (h2 hc s' _ F') (fun fl s'' h => ?_) fun _ _ e => e
    obtain ⟨rfl, F''⟩ := h
    exact cont _ F''
end
end Mine

open PySem PySem.W PyProof.Rows PySem.Spec PySem.Calls
set_option Elab.async false
set_option maxRecDepth 100000
set_option linter.unusedVariables false
namespace Mine

theorem countP_split {P : Int → Bool} : ∀ (l : List Int) (n : Nat), n ≤ l.length → (∀ j (h : j < l.length), j < n → P l[j] = true) → (∀ j (h : j < l.length), n ≤ j → P l[j] = false) → l.countP P = n
  | [], n, hn, _, _ => by simp at hn; subst hn; rfl
  | x :: l, 0, hn, h1, h2 => by
    have hx : P x = false := h2 0 (by simp) (by lia)
    rw [List.countP_cons_of_neg (by rw [hx]; decide)]
    exact countP_split l 0 (by lia) (fun j h hj => by lia) fun j h hj => h2 (j + 1) (by simp; lia) (by lia)
  | x :: l, n + 1, hn, h1, h2 => by
    have hx : P x = true := h1 0 (by simp) (by lia)
    rw [List.countP_cons_of_pos hx]
    rw [countP_split l n (by simpa using hn) (fun j h hj => h1 (j + 1) (by simp; lia) (by lia)) fun j h hj => h2 (j + 1) (by simp; lia) (by lia)]

theorem mid_eq (lo hi : Nat) : ((lo : Int) + (hi : Int)).fdiv 2 = (((lo + hi) / 2 : Nat) : Int) := by
  have := fdiv_nat (lo + hi) 2
  rw [Int.natCast_add] at this
  exact this

noncomputable def isNoneB (d : D) : Bool := (isNoneD d).getD false

section
variable {C : Cx} {k : Nat} {clos : List (Str × Addr)} {name qual : Str} {params : Arguments} {body : FuncBody} {scope : Scope}

theorem hi_arg {hi : D} {l : List (Int × Int)} {n : Nat} (h : (hi = .none ∧ n = l.length) ∨ (hi = .int n ∧ n ≤ l.length)) : n ≤ l.length := by
  rcases h with ⟨_, h⟩ | ⟨_, h⟩ <;> lia

set_option maxHeartbeats 2000000 in
theorem bisect_right_ok {l : List (Int × Int)} {x : Int} {hi : D} {n : Nat} (hhi : (hi = .none ∧ n = l.length) ∨ (hi = .int n ∧ n ≤ l.length)) (hz : l.length ≤ 1000) (hs : (l.map (·.1)).Pairwise (· ≤ ·))
    (hkey : ∀ q ∈ l, FnC C k (.fn name qual params body scope clos) clos [] [tupD q] (.int q.1)) :
    FnKw C (k + 1) (.ref 88) [.list (l.map tupD), .int x, .int 0, hi] (Str.ofString "key") (.fn name qual params body scope clos) (.int (((l.take n).map (·.1)).countP (fun y => decide (y ≤ x)) : Nat)) := by
  rintro vs kv μ A s Q E G ⟨ra, rk⟩ rm ret
  rcases ra with ⟨h1, ⟨h2, ⟨h3, ⟨h4, ⟨⟩⟩⟩⟩⟩
  rename_i v1 v2 v3 v4
  have hn := hi_arg hhi
  have fo := fnOk_K (C := C) (μ := μ) (s := s) (a := 88) (vals := [v1, v2, v3, v4]) (kw := [(Str.ofString "key", kv)]) [(Str.ofString "a", v1, .list (l.map tupD)), (Str.ofString "x", v2, .int x), (Str.ofString "lo", v3, .int 0), (Str.ofString "hi", v4, hi), (Str.ofString "key", kv, .fn name qual params body scope clos)] G rfl rfl
    (BindsTo.of_defaults rfl (hid_ext _ _ _ _ (G.K _ _ rfl)) rfl rfl rfl) rfl rfl rfl rfl rfl rfl rfl rfl ⟨h1, h2, h3, h4, rk, trivial⟩
  refine enterP G rm fo rfl (fun L s₁ A' E' F rm' => ?_) ret
  have hE := F.envF
  have hkl : (l.map tupD).length = l.length := by simp
  refine x_if F rm' (evb_compare (ev_name rfl) ev_int c_lt) (fun hc s₂ F₂ => ?_) (fun _ s₂ F₂ => x_nil ?_)
  · exact absurd hc (by decide)
  refine x_ifJoin (c := isNoneB hi) (own' := []) [(Str.ofString "a", .list (l.map tupD)), (Str.ofString "x", .int x), (Str.ofString "lo", .int 0), (Str.ofString "hi", .int n), (Str.ofString "key", .fn name qual params body scope clos)] F₂ rm' (evb_compare (ev_name rfl) ev_none (c_is_none (by rcases hhi with ⟨rfl, _⟩ | ⟨rfl, _⟩ <;> rfl))) (fun hc s₃ E₃ F₃ => ?_) (fun hc s₃ E₃ F₃ => ?_) fun s₃ F₃ => ?_
  · rcases hhi with ⟨rfl, rfl⟩ | ⟨rfl, _⟩
    · refine x_assign F₃ rm' (ev_call (ev_builtin hE rfl rfl bb_len) (evl_cons (ev_name rfl) evl_nil) kp_builtin (f_len (by rw [hkl]; lia))) (.inl rfl) fun s₄ F₄ => x_nil ⟨rfl, ?_⟩
      rw [hkl] at F₄
      exact F₄.weak (weak_all ⟨rfl, rfl, rfl, rfl, rfl, trivial⟩)
    · cases hc
  · rcases hhi with ⟨rfl, rfl⟩ | ⟨rfl, _⟩
    · cases hc
    · exact x_nil ⟨rfl, F₃.weak (weak_all ⟨rfl, rfl, rfl, rfl, rfl, trivial⟩)⟩
  refine x_if F₃ rm' (c := false) (evb_compare (ev_name rfl) ev_none (c_is_none rfl)) (fun hc => nomatch hc) (fun _ s₄ F₄ => ?_)
  have hat : ∀ j, j < l.length → (l.map tupD)[j]? = some (tupD (l.getD j (0, 0))) := fun j hj => by simp [hj]
  have hmono : ∀ i j, i ≤ j → j < l.length → (l.getD i (0, 0)).1 ≤ (l.getD j (0, 0)).1 := fun i j hij hj => by
    rcases Nat.lt_or_eq_of_le hij with h | rfl
    · have := List.pairwise_iff_getElem.mp hs i j (by simp; lia) (by simp; lia) h
      simpa [hj, show i < l.length by lia] using this
    · exact Int.le_refl _
  refine x_while (σ := Nat × Nat) (fun σ => [(Str.ofString "a", .list (l.map tupD)), (Str.ofString "x", .int x), (Str.ofString "lo", .int σ.1), (Str.ofString "hi", .int σ.2), (Str.ofString "key", .fn name qual params body scope clos)])
    (fun σ => σ.1 ≤ σ.2 ∧ σ.2 ≤ n ∧ (∀ j, j < σ.1 → (l.getD j (0, 0)).1 ≤ x) ∧ (∀ j, σ.2 ≤ j → j < n → x < (l.getD j (0, 0)).1)) (fun σ => σ.2 - σ.1) (fun σ => decide ((σ.1 : Int) < (σ.2 : Int))) (0, n) F₄ rm' (weak_all ⟨rfl, rfl, rfl, rfl, rfl, trivial⟩)
    ⟨by lia, by lia, fun j hj => absurd hj (Nat.not_lt_zero _), fun j h1 h2 => absurd h2 (by simp at h1; lia)⟩ (fun σ hσ => evb_compare (ev_name rfl) (ev_name rfl) c_lt) ?_ ?_
  · rintro ⟨lo, hi'⟩ ⟨j1, j2, j3, j4⟩ hb s₅ E₅ F₅
    have hlt : lo < hi' := by simpa using hb
    simp only at j1 j2 j3 j4 F₅
    obtain ⟨m, hm⟩ : ∃ m, m = (lo + hi') / 2 := ⟨_, rfl⟩
    have hm1 : lo ≤ m := by lia
    have hm2 : m < hi' := by lia
    have hml : m < l.length := by lia
    refine x_assign F₅ rm' (mid_eq lo hi' ▸ ev_binop (ev_binop (ev_name rfl) (ev_name rfl) b_add) ev_int (b_fdiv (by decide) (by decide))) (.inl rfl) fun s₆ F₆ => ?_
    rw [← hm] at F₆
    have hmem : l.getD m (0, 0) ∈ l := by rw [show l.getD m (0, 0) = l[m] by simp [hml]]; exact List.getElem_mem _
    refine x_if F₆ rm' (evb_compare (ev_name rfl) (ev_callF (ev_name rfl) (evl_cons (ev_sub (ev_name rfl) (ev_name rfl) (sub_list (i := (m : Int)) (by lia) (by lia) (by rw [Int.toNat_natCast]; exact hat m hml))) evl_nil) (ρf := []) trivial trivial (hkey _ hmem)) c_lt) (fun hc s₇ F₇ => ?_) (fun hc s₇ F₇ => ?_)
    · have hx : x < (l.getD m (0, 0)).1 := by simpa using hc
      refine x_assign F₇ rm' (ev_name rfl) (.inl rfl) fun s₈ F₈ => x_nil (x_nil ⟨rfl, (lo, m), ?_, ⟨hm1, by simp only; lia, j3, fun j q1 q2 => ?_⟩, F₈.weak (weak_all ⟨rfl, rfl, rfl, rfl, rfl, trivial⟩)⟩)
      · show m - lo < hi' - lo; lia
      · have := hmono m j q1 (by lia); lia
    · have hx : ¬ x < (l.getD m (0, 0)).1 := by simpa using hc
      refine x_assign F₇ rm' (ev_binop (ev_name rfl) ev_int b_add) (.inl rfl) fun s₈ F₈ => x_nil (x_nil ⟨rfl, (m + 1, hi'), ?_, ⟨hm2, j2, fun j q1 => ?_, j4⟩, F₈.weak (weak_all ⟨rfl, rfl, by simp [List.lookup], rfl, rfl, trivial⟩)⟩)
      · show hi' - (m + 1) < hi' - lo; lia
      · have := hmono j m (by simp only at q1; lia) (by lia); lia
  · rintro ⟨lo, hi'⟩ ⟨j1, j2, j3, j4⟩ hb s₅ F₅
    simp only at j1 j2 j3 j4 F₅
    have hlt : lo = hi' := by simp at hb; lia
    subst hlt
    refine x_nil ?_
    refine x_return F₅ rm' (ev_name rfl) fun v s' F' r => ?_
    rw [countP_split ((l.take n).map (·.1)) lo (by simp; lia) (fun j h hj => ?_) fun j h hj => ?_]
    · exact F'.ret r
    · have hj' : j < l.length := by simp at h; lia
      have := j3 j hj
      simpa [hj'] using this
    · have hj' : j < l.length ∧ j < n := by simp at h; lia
      have := j4 j hj hj'.2
      simpa [hj'.1] using this

set_option maxHeartbeats 2000000 in
theorem bisect_left_ok {l : List (Int × Int)} {x : Int} {hi : D} {n : Nat} (hhi : (hi = .none ∧ n = l.length) ∨ (hi = .int n ∧ n ≤ l.length)) (hz : l.length ≤ 1000) (hs : (l.map (·.1)).Pairwise (· ≤ ·))
    (hkey : ∀ q ∈ l, FnC C k (.fn name qual params body scope clos) clos [] [tupD q] (.int q.1)) :
    FnKw C (k + 1) (.ref 97) [.list (l.map tupD), .int x, .int 0, hi] (Str.ofString "key") (.fn name qual params body scope clos) (.int (((l.take n).map (·.1)).countP (fun y => decide (y < x)) : Nat)) := by
  rintro vs kv μ A s Q E G ⟨ra, rk⟩ rm ret
  rcases ra with ⟨h1, ⟨h2, ⟨h3, ⟨h4, ⟨⟩⟩⟩⟩⟩
  rename_i v1 v2 v3 v4
  have hn := hi_arg hhi
  have fo := fnOk_K (C := C) (μ := μ) (s := s) (a := 97) (vals := [v1, v2, v3, v4]) (kw := [(Str.ofString "key", kv)]) [(Str.ofString "a", v1, .list (l.map tupD)), (Str.ofString "x", v2, .int x), (Str.ofString "lo", v3, .int 0), (Str.ofString "hi", v4, hi), (Str.ofString "key", kv, .fn name qual params body scope clos)] G rfl rfl
    (BindsTo.of_defaults rfl (hid_ext _ _ _ _ (G.K _ _ rfl)) rfl rfl rfl) rfl rfl rfl rfl rfl rfl rfl rfl ⟨h1, h2, h3, h4, rk, trivial⟩
  refine enterP G rm fo rfl (fun L s₁ A' E' F rm' => ?_) ret
  have hE := F.envF
  have hkl : (l.map tupD).length = l.length := by simp
  refine x_if F rm' (evb_compare (ev_name rfl) ev_int c_lt) (fun hc s₂ F₂ => ?_) (fun _ s₂ F₂ => x_nil ?_)
  · exact absurd hc (by decide)
  refine x_ifJoin (c := isNoneB hi) (own' := []) [(Str.ofString "a", .list (l.map tupD)), (Str.ofString "x", .int x), (Str.ofString "lo", .int 0), (Str.ofString "hi", .int n), (Str.ofString "key", .fn name qual params body scope clos)] F₂ rm' (evb_compare (ev_name rfl) ev_none (c_is_none (by rcases hhi with ⟨rfl, _⟩ | ⟨rfl, _⟩ <;> rfl))) (fun hc s₃ E₃ F₃ => ?_) (fun hc s₃ E₃ F₃ => ?_) fun s₃ F₃ => ?_
  · rcases hhi with ⟨rfl, rfl⟩ | ⟨rfl, _⟩
    · refine x_assign F₃ rm' (ev_call (ev_builtin hE rfl rfl bb_len) (evl_cons (ev_name rfl) evl_nil) kp_builtin (f_len (by rw [hkl]; lia))) (.inl rfl) fun s₄ F₄ => x_nil ⟨rfl, ?_⟩
      rw [hkl] at F₄
      exact F₄.weak (weak_all ⟨rfl, rfl, rfl, rfl, rfl, trivial⟩)
    · cases hc
  · rcases hhi with ⟨rfl, rfl⟩ | ⟨rfl, _⟩
    · cases hc
    · exact x_nil ⟨rfl, F₃.weak (weak_all ⟨rfl, rfl, rfl, rfl, rfl, trivial⟩)⟩
  refine x_if F₃ rm' (c := false) (evb_compare (ev_name rfl) ev_none (c_is_none rfl)) (fun hc => nomatch hc) (fun _ s₄ F₄ => ?_)
  have hat : ∀ j, j < l.length → (l.map tupD)[j]? = some (tupD (l.getD j (0, 0))) := fun j hj => by simp [hj]
  have hmono : ∀ i j, i ≤ j → j < l.length → (l.getD i (0, 0)).1 ≤ (l.getD j (0, 0)).1 := fun i j hij hj => by
    rcases Nat.lt_or_eq_of_le hij with h | rfl
    · have := List.pairwise_iff_getElem.mp hs i j (by simp; lia) (by simp; lia) h
      simpa [hj, show i < l.length by lia] using this
    · exact Int.le_refl _
  refine x_while (σ := Nat × Nat) (fun σ => [(Str.ofString "a", .list (l.map tupD)), (Str.ofString "x", .int x), (Str.ofString "lo", .int σ.1), (Str.ofString "hi", .int σ.2), (Str.ofString "key", .fn name qual params body scope clos)])
    (fun σ => σ.1 ≤ σ.2 ∧ σ.2 ≤ n ∧ (∀ j, j < σ.1 → (l.getD j (0, 0)).1 < x) ∧ (∀ j, σ.2 ≤ j → j < n → x ≤ (l.getD j (0, 0)).1)) (fun σ => σ.2 - σ.1) (fun σ => decide ((σ.1 : Int) < (σ.2 : Int))) (0, n) F₄ rm' (weak_all ⟨rfl, rfl, rfl, rfl, rfl, trivial⟩)
    ⟨by lia, by lia, fun j hj => absurd hj (Nat.not_lt_zero _), fun j h1 h2 => absurd h2 (by simp at h1; lia)⟩ (fun σ hσ => evb_compare (ev_name rfl) (ev_name rfl) c_lt) ?_ ?_
  · rintro ⟨lo, hi'⟩ ⟨j1, j2, j3, j4⟩ hb s₅ E₅ F₅
    have hlt : lo < hi' := by simpa using hb
    simp only at j1 j2 j3 j4 F₅
    obtain ⟨m, hm⟩ : ∃ m, m = (lo + hi') / 2 := ⟨_, rfl⟩
    have hm1 : lo ≤ m := by lia
    have hm2 : m < hi' := by lia
    have hml : m < l.length := by lia
    refine x_assign F₅ rm' (mid_eq lo hi' ▸ ev_binop (ev_binop (ev_name rfl) (ev_name rfl) b_add) ev_int (b_fdiv (by decide) (by decide))) (.inl rfl) fun s₆ F₆ => ?_
    rw [← hm] at F₆
    have hmem : l.getD m (0, 0) ∈ l := by rw [show l.getD m (0, 0) = l[m] by simp [hml]]; exact List.getElem_mem _
    refine x_if F₆ rm' (evb_compare (ev_callF (ev_name rfl) (evl_cons (ev_sub (ev_name rfl) (ev_name rfl) (sub_list (i := (m : Int)) (by lia) (by lia) (by rw [Int.toNat_natCast]; exact hat m hml))) evl_nil) (ρf := []) trivial trivial (hkey _ hmem)) (ev_name rfl) c_lt) (fun hc s₇ F₇ => ?_) (fun hc s₇ F₇ => ?_)
    · have hx : (l.getD m (0, 0)).1 < x := by simpa using hc
      refine x_assign F₇ rm' (ev_binop (ev_name rfl) ev_int b_add) (.inl rfl) fun s₈ F₈ => x_nil (x_nil ⟨rfl, (m + 1, hi'), ?_, ⟨hm2, j2, fun j q1 => ?_, j4⟩, F₈.weak (weak_all ⟨rfl, rfl, by simp [List.lookup], rfl, rfl, trivial⟩)⟩)
      · show hi' - (m + 1) < hi' - lo; lia
      · have := hmono j m (by simp only at q1; lia) (by lia); lia
    · have hx : ¬ (l.getD m (0, 0)).1 < x := by simpa using hc
      refine x_assign F₇ rm' (ev_name rfl) (.inl rfl) fun s₈ F₈ => x_nil (x_nil ⟨rfl, (lo, m), ?_, ⟨hm1, by simp only; lia, j3, fun j q1 q2 => ?_⟩, F₈.weak (weak_all ⟨rfl, rfl, rfl, rfl, rfl, trivial⟩)⟩)
      · show m - lo < hi' - lo; lia
      · have := hmono m j q1 (by lia); lia
  · rintro ⟨lo, hi'⟩ ⟨j1, j2, j3, j4⟩ hb s₅ F₅
    simp only at j1 j2 j3 j4 F₅
    have hlt : lo = hi' := by simp at hb; lia
    subst hlt
    refine x_nil ?_
    refine x_return F₅ rm' (ev_name rfl) fun v s' F' r => ?_
    rw [countP_split ((l.take n).map (·.1)) lo (by simp; lia) (fun j h hj => ?_) fun j h hj => ?_]
    · exact F'.ret r
    · have hj' : j < l.length := by simp at h; lia
      have := j3 j hj
      simpa [hj'] using this
    · have hj' : j < l.length ∧ j < n := by simp at h; lia
      have := j4 j hj hj'.2
      simpa [hj'.1] using this
end
end Mine

open PySem PySem.W PyProof.Rows PySem.Spec PySem.Calls
set_option Elab.async false
set_option maxRecDepth 100000
set_option linter.unusedVariables false
namespace Mine
section
variable {C : Cx} {k : Nat} {A : Around} {env : Env} {cs clos : List (Str × Addr)} {ρ ρ' ρf : List (Str × D)} {own own' : List (Addr × OD)} {b b' : Heap} {f s s' s₀ : Shared} {μ μ' μ₀ μ₁ W : List Addr} {d d₁ d₂ dk : D} {ds : List D} {h' : Heap} {tk : Nat} {X : SA C} {a : Addr} {od od' : OD}
  {Q : Flow → Shared → Prop} {E : Value → Shared → Prop} {rest : List Stmt}

/-- a call by name too, lent the frame's own object, that hands back nothing -/
noncomputable def SpecOkw (C : Cx) (k : Nat) (fv : Value) (ds : List D) (name : Str) (dk : D) (a : Addr) (od od' : OD) : Prop :=
  ∀ (b : Heap) (f : Shared) (μ₀ : List Addr) (env : Env) (cs : List (Str × Addr)) (ρ : List (Str × D)) (s : Shared) (A : Around) (Q : Value → Shared → Prop) (E : Value → Shared → Prop) (vs : List Value) (kv : Value),
    Fm C b f μ₀ env cs ρ [(a, od)] s → Room k A → RepL C (hideAll s.heap (Wl env cs [(a, od)] ++ μ₀)) vs ds → Rep C (hideAll s.heap (Wl env cs [(a, od)] ++ μ₀)) kv dk →
    (∀ s', Fm C b f μ₀ env cs ρ [(a, od')] s' → Q .none s') → wpAny (model C.prog C.w) A (call fv vs [(name, kv)]) Q E s

theorem x_callOkw {func e ke : Expr} {es : List Expr} {cpos pos kp : Pos} {fv : Value} {name : Str}
    (F : Fm C b f μ₀ env cs ρ [(a, od)] s) (rm : Room k A) (hf : Ev C k env ρ (OwnX C [(a, od)]) func (.val fv)) (ha : EvL C k env ρ (OwnX C [(a, od)]) cpos (e :: es) ds) (hke : Ev C k env ρ (OwnX C [(a, od)]) ke dk)
    (hk : Kp C fv) (spec : SpecOkw C k fv ds name dk a od od')
    (cont : ∀ s', Fm C b f μ₀ env cs ρ [(a, od')] s' → wpAny (model C.prog C.w) A (execs rest env) Q E s')
    (hs : swapsWith (.Call func (e :: es) [{ arg := some name, value := ke, pos := kp }] cpos) none pos.line env = pure false := by rfl) (hi : interactive env = false := by rfl)
    (he : eval (.Call func (e :: es) [{ arg := some name, value := ke, pos := kp }] cpos) env = (do callWith cpos (← eval func env) [] (backTo cpos (starEach (e :: es) env)) (backToKw cpos (keywordEach [{ arg := some name, value := ke, pos := kp }] env))) := by rfl)
    (hst : starEach (e :: es) env = (false, eval e env) :: starEach es env := by rfl) (hp : (backTo cpos (starEach es env)).any (·.1) = false := by rfl)
    (hkw : backToKw cpos (keywordEach [{ arg := some name, value := ke, pos := kp }] env) = [(some name, do let v ← eval ke env; standAt cpos; pure v)] := by rfl) :
    wpAny (model C.prog C.w) A (execs (.Expr (.Call func (e :: es) [{ arg := some name, value := ke, pos := kp }] cpos) pos :: rest) env) Q E s := by
  refine x_cons (wpAny_Expr_any ?_ hi hs)
  rw [he, hkw]
  refine wpAny_bind (F.ev rm hf fun fv' s₁ F₁ _ _ r₁ => ?_)
  cases r₁
  have ha' := ha (Wl env cs [(a, od)] ++ μ₀) A s₁
  rw [hst] at ha' ⊢
  refine callWith_of (P := fun h => Good C (Wl env cs [(a, od)] ++ μ₀) h) (by show ((false || (backTo cpos (starEach es env)).any (·.1)) || false) = false; rw [hp]; rfl) (fun h G => hk _ h G) (evalArgs_kw rfl ?_)
  refine ha' _ E F₁.co.good F₁.sees rm fun vs h₂ tk₂ k₂ G₂ r₂ => ?_
  have F₂ := F₁.pure (tk := tk₂) k₂ G₂
  refine wpAny_evalAll_cons (wpAny_bind (hke _ A _ _ E G₂ F₂.sees rm fun kv h₃ tk₃ k₃ G₃ r₃ => wpAny_bind (wpAny_standAt (wpAny_pure (wpAny_evalAll_nil ⟨G₃, ?_⟩)))))
  exact spec _ _ _ _ _ _ _ A _ E vs kv (F₂.pure (tk := tk₃) k₃ G₃) rm (DtL.stable _ _ _ _ G₂ k₃ G₃ r₂) r₃ fun s' F' => cont s' F'

/-- lambda row: row[0] -/
theorem lam_row {qual : Str} {pp p1 p2 p3 : Pos} {n : Nat} (q : Int × Int) : FnC C (k + 1) (.fn "<lambda>" qual { posonlyargs := [], args := [{ arg := Str.ofString "row", annotation := none, pos := pp }], vararg := none, kwonlyargs := [], kw_defaults := [], kwarg := none, defaults := [] }
    (.expr (.Subscript (.Name (Str.ofString "row") p1) (.Constant (.int 0) n p2) p3)) { kind := ScopeKind.function, names := [(Str.ofString "row", NameKind.local)], isGenerator := false, isCoroutine := false, more := [] } clos) clos [] [tupD q] (.int q.1) := by
  rintro fv vs μ A s Q E G ⟨rf, cl, ra⟩ rm ret
  rcases ra with ⟨h1, ⟨⟩⟩
  rename_i v1
  obtain ⟨w, doc, pm, cdv, ct, rfl, fo⟩ := fnOk_of (vals := [v1]) [(Str.ofString "row", v1, tupD q)] rf (fun _ _ _ _ => rfl) rfl rfl rfl rfl rfl rfl ⟨h1, trivial⟩ cl rfl
  exact enterE G rm fo rfl (fun L X => ev_sub (ev_name rfl) ev_int (sub_tup (by decide) (by decide) rfl)) ret

/-- where a row goes -/
noncomputable def insAt (l : List (Int × Int)) (q : Int × Int) : List (Int × Int) :=
  l.take ((l.map (·.1)).countP (fun y => decide (y ≤ q.1))) ++ q :: l.drop ((l.map (·.1)).countP (fun y => decide (y ≤ q.1)))

set_option maxHeartbeats 2000000 in
theorem insort_ok {name qual : Str} {params : Arguments} {body : FuncBody} {scope : Scope} {l : List (Int × Int)} {q : Int × Int} (hz : l.length ≤ 1000) (hs : (l.map (·.1)).Pairwise (· ≤ ·))
    (hkey : ∀ q : Int × Int, FnC C k (.fn name qual params body scope clos) clos [] [tupD q] (.int q.1)) :
    SpecOkw C (k + 2) (.ref 79) [.val (.ref a), tupD q] (Str.ofString "key") (.fn name qual params body scope clos) a (.list (l.map tupD)) (.list ((insAt l q).map tupD)) := by
  intro b f μ₀ env cs ρ s A Q E vs kv F rm ra rk ret
  rcases ra with ⟨h1, ⟨h2, ⟨⟩⟩⟩
  rename_i v1 v2
  have G := F.co.good
  have fo := fnOk_K (C := C) (μ := Wl env cs [(a, .list (l.map tupD))] ++ μ₀) (s := s) (a := 79) (vals := [v1, v2]) (kw := [(Str.ofString "key", kv)]) [(Str.ofString "a", v1, .val (.ref a)), (Str.ofString "x", v2, tupD q), (Str.ofString "lo", .int 0 _, .int 0), (Str.ofString "hi", .none, .none), (Str.ofString "key", kv, .fn name qual params body scope clos)] G rfl rfl
    (BindsTo.of_defaults rfl (hid_ext _ _ _ _ (G.K _ _ rfl)) rfl rfl rfl) rfl rfl rfl rfl rfl rfl rfl rfl ⟨h1, h2, .int _ _, .none, rk, trivial⟩
  refine enterO (own' := [(a, .list ((insAt l q).map tupD))]) F rm fo rfl rfl (fun b' μ' L s₁ A' E' F₁ rm₁ => ?_) ret
  have hE := F₁.envF
  have rm₂ : Room (k + 1) A' := rm₁
  refine x_if F₁ rm₁ (c := false) (evb_compare (ev_name rfl) ev_none (c_is_none rfl)) (fun hc => nomatch hc) (fun _ s₂ F₂ => ?_)
  have hb := bisect_right_ok (C := C) (k := k) (x := q.1) (hi := .none) (n := l.length) (.inl ⟨rfl, rfl⟩) hz hs (fun q' _ => hkey q')
  rw [List.take_length] at hb
  have hk1 : FnC C (k + 1) (.fn name qual params body scope clos) clos [] [tupD q] (.int q.1) := fun fv vs => (hkey q fv vs).le (by lia)
  refine x_assign F₂ rm₂ (ev_own (x := Str.ofString "a") rfl (ev_callKw (ev_global hE rfl rfl) (evl_cons (ev_name rfl) (evl_cons (ev_callF (ev_name rfl) (evl_cons (ev_name rfl) evl_nil) (ρf := []) trivial trivial hk1) (evl_cons (ev_name rfl) (evl_cons (ev_name rfl) evl_nil)))) (ev_name rfl) (kp_fn rfl) hb) own_int) (.inl rfl) fun s₃ F₃ => x_nil ?_
  have hc : (l.map (·.1)).countP (fun y => decide (y ≤ q.1)) ≤ l.length := by
    have := List.countP_le_length (p := fun y => decide (y ≤ q.1)) (l := l.map (·.1))
    simpa using this
  refine x_insert F₃ rm₂ rfl (evl_cons (ev_name rfl) (evl_cons (ev_name rfl) evl_nil)) (by rw [List.length_map]; exact hc) (by rw [List.length_map]; lia) fun s₄ F₄ => ?_
  have e : (insAt l q).map tupD = (l.map tupD).take ((l.map (·.1)).countP (fun y => decide (y ≤ q.1))) ++ tupD q :: (l.map tupD).drop ((l.map (·.1)).countP (fun y => decide (y ≤ q.1))) := by
    unfold insAt
    rw [List.map_append, List.map_cons, List.map_take, List.map_drop]
  rw [← e] at F₄
  exact x_nil ⟨rfl, _, F₄⟩
end
end Mine

open PySem PySem.W PyProof.Rows PySem.Spec PySem.Calls
set_option Elab.async false
set_option maxRecDepth 100000
set_option linter.unusedVariables false
namespace Mine

theorem insAt_len (l : List (Int × Int)) (q : Int × Int) : (insAt l q).length = l.length + 1 := by
  unfold insAt
  have := List.countP_le_length (p := fun y => decide (y ≤ q.1)) (l := l.map (·.1))
  simp at this
  simp
  lia

theorem sorted_cut : ∀ (l : List Int) (x : Int), l.Pairwise (· ≤ ·) → (∀ y ∈ l.take (l.countP (fun y => decide (y ≤ x))), y ≤ x) ∧ (∀ y ∈ l.drop (l.countP (fun y => decide (y ≤ x))), x < y)
  | [], x, _ => ⟨fun y hy => by simp at hy, fun y hy => by simp at hy⟩
  | z :: l, x, h => by
    have h1 := List.pairwise_cons.mp h
    by_cases hz : z ≤ x
    · rw [List.countP_cons_of_pos (by simpa using hz)]
      obtain ⟨a, b⟩ := sorted_cut l x h1.2
      refine ⟨fun y hy => ?_, fun y hy => b y (by simpa using hy)⟩
      rw [List.take_succ_cons] at hy
      rcases List.mem_cons.mp hy with rfl | hy
      · exact hz
      · exact a y hy
    · have h0 : (z :: l).countP (fun y => decide (y ≤ x)) = 0 := by
        rw [List.countP_eq_zero]
        intro y hy
        rcases List.mem_cons.mp hy with rfl | hy
        · simpa using hz
        · have := h1.1 y hy; simp; lia
      rw [h0]
      refine ⟨fun y hy => by simp at hy, fun y hy => ?_⟩
      rcases List.mem_cons.mp hy with rfl | hy
      · lia
      · have := h1.1 y hy; lia

theorem insAt_sorted {l : List (Int × Int)} {q : Int × Int} (h : (l.map (·.1)).Pairwise (· ≤ ·)) : ((insAt l q).map (·.1)).Pairwise (· ≤ ·) := by
  obtain ⟨h1, h2⟩ := sorted_cut (l.map (·.1)) q.1 h
  unfold insAt
  generalize (l.map (·.1)).countP (fun y => decide (y ≤ q.1)) = n at *
  rw [List.map_append, List.map_cons, List.map_take, List.map_drop]
  rw [List.pairwise_append, List.pairwise_cons]
  have ht : ((l.map (·.1)).take n).Pairwise (· ≤ ·) := h.sublist (List.take_sublist _ _)
  have hd' : ((l.map (·.1)).drop n).Pairwise (· ≤ ·) := h.sublist (List.drop_sublist _ _)
  refine ⟨ht, ⟨fun y hy => Int.le_of_lt (h2 y hy), hd'⟩, fun a ha b hb => ?_⟩
  have := h1 a ha
  rcases List.mem_cons.mp hb with rfl | hb
  · exact this
  · have := h2 b hb; lia

/-- the listing of the first places -/
noncomputable def lst (r : List Int) : Nat → List (Int × Int)
  | 0 => []
  | i + 1 => insAt (lst r i) (r.getD i 0, (i : Int))
theorem lst_len (r : List Int) : ∀ i, (lst r i).length = i
  | 0 => rfl
  | i + 1 => by rw [lst, insAt_len, lst_len r i]
theorem lst_sorted (r : List Int) : ∀ i, ((lst r i).map (·.1)).Pairwise (· ≤ ·)
  | 0 => .nil
  | i + 1 => insAt_sorted (lst_sorted r i)


theorem rng_small {n : Nat} (h : n ≤ 1000) : Builtin.Range.small 0 (n : Int) 1 = true ∧ Builtin.Range.rangeSize 0 (n : Int) 1 = (n : Int) := by
  constructor
  · exact small_one (by lia) (by lia) (by lia) (by lia)
  · simp [Builtin.Range.rangeSize]; lia

section
variable {C : Cx} {k : Nat} {env : Env} {ρ : List (Str × D)} {X : SA C}

theorem it_upto {n : Nat} (h : n ≤ 1000) : Iters C (.rng 0 (n : Int) 1) ((List.range n).map fun i : Nat => D.int (i : Int)) := by
  have := it_rng (C := C) (a := 0) (b := n) (c := 1) n (rng_small h).1 (rng_small h).2
  simpa using this

/-- range(e) -/
theorem ev_range {e : Expr} {p₁ p₂ : Pos} {n : Int} (hE : EnvF env) (hk : env.kindOf (Str.ofString "range") = some .globalImplicit) (he : Ev C k env ρ X e (.int n))
    (hel : eval (.Call (.Name (Str.ofString "range") p₁) [e] [] p₂) env = (do callWith p₂ (← eval (.Name (Str.ofString "range") p₁) env) [] (backTo p₂ (starEach [e] env)) (backToKw p₂ (keywordEach [] env))) := by rfl)
    (hs : starEach [e] env = (false, eval e env) :: starEach [] env := by rfl) : Ev C k env ρ X (.Call (.Name (Str.ofString "range") p₁) [e] [] p₂) (.rng 0 n 1) :=
  ev_call (ev_builtin hE hk rfl bb_range) (evl_cons he evl_nil hs) kp_type f_range1 hel hs rfl
/-- len(e) -/
theorem ev_len {e : Expr} {p₁ p₂ : Pos} {ds : List D} (hE : EnvF env) (hk : env.kindOf (Str.ofString "len") = some .globalImplicit) (he : Ev C k env ρ X e (.list ds)) (hz : ds.length ≤ 1000)
    (hel : eval (.Call (.Name (Str.ofString "len") p₁) [e] [] p₂) env = (do callWith p₂ (← eval (.Name (Str.ofString "len") p₁) env) [] (backTo p₂ (starEach [e] env)) (backToKw p₂ (keywordEach [] env))) := by rfl)
    (hs : starEach [e] env = (false, eval e env) :: starEach [] env := by rfl) : Ev C k env ρ X (.Call (.Name (Str.ofString "len") p₁) [e] [] p₂) (.int (ds.length : Nat)) :=
  ev_call (ev_builtin hE hk rfl bb_len) (evl_cons he evl_nil hs) kp_builtin (f_len (by lia)) hel hs rfl

set_option maxHeartbeats 2000000 in
theorem listing_ok {r : List Int} (hz : r.length ≤ 100) : Fn C (k + 10) (.ref 123) [.list (r.map D.int)] (.list ((lst r r.length).map tupD)) := by
  rintro vs μ A s Q E G ⟨⟩ rm ret
  rename_i v vs h r'
  cases r'
  refine enter [(Str.ofString "rests", v, .list (r.map D.int))] G rm rfl rfl rfl rfl rfl rfl rfl (by decide) rfl rfl rfl rfl rfl ⟨h, trivial⟩ (fun L s₁ A' E' F rm' => ?_) ret
  have hE := F.envF
  have hrl : (r.map D.int).length = r.length := by simp
  refine x_newList F (.inl rfl) fun w s₂ F₂ => ?_
  refine x_for (fun i => [(Str.ofString "rests", .list (r.map D.int)), (Str.ofString "listing", .val (.ref w))]) (fun i => [(w, .list ((lst r i).map tupD))]) F₂ rm' (ev_range hE rfl (ev_len hE rfl (ev_name rfl) (by rw [hrl]; lia))) (by rw [hrl]; exact it_upto (by lia)) (.inl rfl) (fun _ => rfl) rfl (weak_all ⟨rfl, rfl, trivial⟩) ?_ ?_
  · intro i d' hd' b' μ' s' E' F'
    obtain ⟨x, e1, rfl, e2⟩ := map_at hd'
    have hi : x = i ∧ i < r.length := by
      rw [List.getElem?_range] at e1
      · exact ⟨(Option.some.inj e1).symm, by
          rcases Nat.lt_or_ge i r.length with h | h
          · exact h
          · rw [List.getElem?_map, List.getElem?_eq_none (by simpa using h)] at hd'; cases hd'⟩
      · rcases Nat.lt_or_ge i r.length with h | h
        · exact h
        · rw [List.getElem?_map, List.getElem?_eq_none (by simpa using h)] at hd'; cases hd'
    obtain ⟨rfl, hi⟩ := hi
    have ins := fun qual pp p1 p2 p3 n clos => insort_ok (C := C) (k := 7) (a := w) (l := lst r x) (q := (r.getD x 0, (x : Int))) (clos := clos) (by rw [lst_len]; lia) (lst_sorted r x) (fun q => lam_row (k := 6) (qual := qual) (pp := pp) (p1 := p1) (p2 := p2) (p3 := p3) (n := n) q)
    refine x_callOkw F' (rm'.le (j := 9) (by lia)) (ev_global hE rfl rfl) (evl_cons (ev_name rfl) (evl_cons (ev_tuple (evl_cons (ev_sub (ev_name rfl) (ev_name rfl) (sub_list (i := (x : Int)) (d := .int (r.getD x 0)) (by lia) (by lia) (by simp [hi]))) (evl_cons (ev_name rfl) evl_nil))) evl_nil)) (ev_lambda (122, 118, Str.ofString "_law_listing.<locals>.<lambda>") (by decide) hE rfl rfl (closure_ok rfl)) (kp_fn rfl) (ins _ _ _ _ _ _ _) fun s₃ F₃ => x_nil ⟨rfl, F₃.weak (weak_all ⟨rfl, rfl, trivial⟩)⟩
  · intro s₃ F₃
    refine x_return F₃ rm' (ev_name rfl) fun v s' F' r' => ?_
    cases r'
    have := F'.retOwn (List.mem_singleton.mpr rfl)
    simpa using this
end
end Mine

open PySem PySem.W PyProof.Rows PySem.Spec PySem.Calls
set_option Elab.async false
set_option maxRecDepth 100000
set_option linter.unusedVariables false
namespace Mine

theorem range_at {n i : Nat} {g : Nat → D} {d : D} (h : ((List.range n).map g)[i]? = some d) : i < n ∧ d = g i := by
  rcases Nat.lt_or_ge i n with hi | hi
  · rw [List.getElem?_map, List.getElem?_range hi] at h
    exact ⟨hi, (Option.some.inj h).symm⟩
  · rw [List.getElem?_map, List.getElem?_eq_none (by simpa using hi)] at h; cases h

/-- less, and no more, among the first rows -/
noncomputable def endOf (l : List (Int × Int)) (n : Nat) (r : Nat) : Int × Int :=
  ((((l.take n).map (·.1)).countP (fun y => decide (y < (r : Int))) : Nat), (((l.take n).map (·.1)).countP (fun y => decide (y ≤ (r : Int))) : Nat))

section
variable {C : Cx} {k : Nat} {env : Env} {ρ : List (Str × D)} {X : SA C}

set_option maxHeartbeats 2000000 in
theorem ends_ok {l : List (Int × Int)} {p : Nat} (hp : 1 ≤ p) (hp2 : p ≤ 100) (hz : l.length ≤ 1000) (hl : 2 * p - 2 ≤ l.length) (hs : (l.map (·.1)).Pairwise (· ≤ ·)) : Fn C (k + 10) (.ref 130) [.list (l.map tupD), .int p] (.list (((List.range p).map (endOf l (2 * p - 2))).map tupD)) := by
  rintro vs μ A s Q E G ⟨⟩ rm ret
  rename_i v vs h r
  rcases r with ⟨h2, ⟨⟩⟩
  rename_i v2
  refine enter [(Str.ofString "listing", v, .list (l.map tupD)), (Str.ofString "p", v2, .int p)] G rm rfl rfl rfl rfl rfl rfl rfl (by decide) rfl rfl rfl rfl rfl ⟨h, h2, trivial⟩ (fun L s₁ A' E' F rm' => ?_) ret
  have hE := F.envF
  refine x_newList F (.inl rfl) fun w s₂ F₂ => ?_
  refine x_for (fun i => [(Str.ofString "listing", .list (l.map tupD)), (Str.ofString "p", .int p), (Str.ofString "ends", .val (.ref w))]) (fun i => [(w, .list (((List.range i).map (endOf l (2 * p - 2))).map tupD))]) F₂ rm' (ev_range hE rfl (ev_name rfl)) (it_upto (by lia)) (.inl rfl) (fun _ => rfl) rfl (weak_all ⟨rfl, rfl, rfl, trivial⟩) ?_ ?_
  · intro i d' hd' b' μ' s' E' F'
    obtain ⟨hi, rfl⟩ := range_at hd'
    have e2 : (2 : Int) * (p : Int) - 2 = ((2 * p - 2 : Nat) : Int) := by lia
    have bl := fun qual pp p1 p2 p3 n clos => bisect_left_ok (C := C) (k := 8) (l := l) (x := (i : Int)) (hi := .int ((2 * p - 2 : Nat) : Int)) (n := 2 * p - 2) (clos := clos) (.inr ⟨rfl, hl⟩) hz hs (fun q _ => lam_row (k := 7) (qual := qual) (pp := pp) (p1 := p1) (p2 := p2) (p3 := p3) (n := n) q)
    have br := fun qual pp p1 p2 p3 n clos => bisect_right_ok (C := C) (k := 8) (l := l) (x := (i : Int)) (hi := .int ((2 * p - 2 : Nat) : Int)) (n := 2 * p - 2) (clos := clos) (.inr ⟨rfl, hl⟩) hz hs (fun q _ => lam_row (k := 7) (qual := qual) (pp := pp) (p1 := p1) (p2 := p2) (p3 := p3) (n := n) q)
    have rm₂ : Room 9 A' := rm'.le (by lia)
    refine x_assign F' rm₂ (ev_callKw (ev_global hE rfl rfl) (evl_cons (ev_name rfl) (evl_cons (ev_name rfl) (evl_cons ev_int (evl_cons (e2 ▸ ev_binop (ev_binop ev_int (ev_name rfl) (b_mul (mulOk (by decide)))) ev_int b_sub) evl_nil)))) (ev_lambda (129, 125, Str.ofString "_law_ends.<locals>.<lambda>") (by decide) hE rfl rfl (closure_ok rfl)) (kp_fn rfl) (bl _ _ _ _ _ _ _)) (.inl rfl) fun s₃ F₃ => ?_
    refine x_assign F₃ rm₂ (ev_callKw (ev_global hE rfl rfl) (evl_cons (ev_name rfl) (evl_cons (ev_name rfl) (evl_cons ev_int (evl_cons (e2 ▸ ev_binop (ev_binop ev_int (ev_name rfl) (b_mul (mulOk (by decide)))) ev_int b_sub) evl_nil)))) (ev_lambda (129, 125, Str.ofString "_law_ends.<locals>.<lambda>") (by decide) hE rfl rfl (closure_ok rfl)) (kp_fn rfl) (br _ _ _ _ _ _ _)) (.inl rfl) fun s₄ F₄ => ?_
    refine x_append F₄ rm₂ rfl (ev_tuple (evl_cons (ev_name rfl) (evl_cons (ev_name rfl) evl_nil))) (by simp; lia) fun s₅ F₅ => ?_
    have e3 : ((List.range (i + 1)).map (endOf l (2 * p - 2))).map tupD = ((List.range i).map (endOf l (2 * p - 2))).map tupD ++ [tupD (endOf l (2 * p - 2) i)] := by rw [List.range_succ]; simp
    rw [e3]
    exact x_nil ⟨rfl, F₅.weak (weak_all ⟨rfl, rfl, rfl, trivial⟩)⟩
  · intro s₃ F₃
    refine x_return F₃ rm' (ev_name rfl) fun v s' F' r' => ?_
    cases r'
    have := F'.retOwn (List.mem_singleton.mpr rfl)
    simpa using this

theorem py_pair (a b : Int) : Py 1 (.tup [.int a, .int b]) (.tuple [.int a, .int b]) := .tup (.cons (.int _) (.cons (.int _) .nil))

set_option maxHeartbeats 2000000 in
theorem rests_ok {l : List Int} {p : Int} (hz : l.length ≤ 100) (hp : 0 < p) (hp2 : p < 100) (hl : ∀ x ∈ l, x.natAbs < 2 ^ 29) : Fn C (k + 100) (.ref 116) [.list (l.map D.int), .int p] (.list ((l.map fun x => x.fmod p).map D.int)) := by
  rintro vs μ A s Q E G ⟨⟩ rm ret
  rename_i v vs h r
  rcases r with ⟨h2, ⟨⟩⟩
  rename_i v2
  refine enter [(Str.ofString "numbers", v, .list (l.map D.int)), (Str.ofString "p", v2, .int p)] G rm rfl rfl rfl rfl rfl rfl rfl (by decide) rfl rfl rfl rfl rfl ⟨h, h2, trivial⟩ (fun L s₁ A' E' F rm' => ?_) ret
  have hE := F.envF
  refine x_newList F (.inl rfl) fun w s₂ F₂ => ?_
  refine x_for (fun i => [(Str.ofString "p", .int p), (Str.ofString "rests", .val (.ref w))]) (fun i => [(w, .list (((l.take i).map fun x => x.fmod p).map D.int))]) F₂ rm' (ev_name rfl) it_list (.inl rfl) (fun _ => rfl) rfl (weak_all ⟨rfl, rfl, trivial⟩) ?_ ?_
  · intro i d' hd' b' μ' s' E' F'
    obtain ⟨x, e1, rfl, e2⟩ := map_at hd'
    have hx := hl x (List.mem_of_getElem? e1)
    have rm₂ : Room 93 A' := rm'.le (by lia)
    have i1 := int_divmod_ok (C := C) (k := 0) (a := x) (b := p) hx (by lia) (by lia)
    have i2 := int_divmod_ok (C := C) (k := 0) (a := x) (b := -p) hx (by lia) (by lia)
    refine x_pair F' rm₂ (ev_call (ev_global hE rfl rfl) (evl_cons (ev_name rfl) (evl_cons (ev_name rfl) evl_nil)) (kp_fn rfl) i1) (.inl rfl) (.inl rfl) fun s₃ F₃ => ?_
    refine x_if_no F₃ rm₂ (evb_or (a := false) (b := false) (evb_compare (ev_tuple (evl_cons (ev_name rfl) (evl_cons (ev_name rfl) evl_nil))) (ev_call (ev_builtin hE rfl rfl bb_divmod) (evl_cons (ev_name rfl) (evl_cons (ev_name rfl) evl_nil)) kp_builtin (f_divmod (by lia) (by lia))) (c_ne_same (py_pair _ _) (by decide)))
      fun _ => evb_compare (ev_call (ev_global hE rfl rfl) (evl_cons (ev_name rfl) (evl_cons (ev_unary (ev_name rfl) u_neg) evl_nil)) (kp_fn rfl) i2) (ev_call (ev_builtin hE rfl rfl bb_divmod) (evl_cons (ev_name rfl) (evl_cons (ev_unary (ev_name rfl) u_neg) evl_nil)) kp_builtin (f_divmod (by lia) (by lia))) (c_ne_same (py_pair _ _) (by decide))) fun s₄ F₄ => ?_
    refine x_append F₄ rm₂ rfl (ev_name rfl) (by simp; lia) fun s₅ F₅ => ?_
    rw [e2]
    have e3 : ((l.take i ++ [x]).map fun x => x.fmod p).map D.int = ((l.take i).map fun x => x.fmod p).map D.int ++ [D.int (x.fmod p)] := by simp
    rw [e3]
    exact x_nil ⟨rfl, F₅.weak (weak_all ⟨rfl, rfl, trivial⟩)⟩
  · intro s₃ F₃
    refine x_return F₃ rm' (ev_name rfl) fun v s' F' r' => ?_
    cases r'
    have := F'.retOwn (List.mem_singleton.mpr rfl)
    simpa using this
end
end Mine

open PySem PySem.W PyProof.Rows PySem.Spec PySem.Calls
set_option Elab.async false
set_option maxRecDepth 100000
set_option linter.unusedVariables false
namespace Mine

theorem cEnvF {env : Env} {scope : Scope} {cl : List (Str × Addr)} {L : Addr} (hE : EnvF env) (h : (relabel scope env).kind = .function) : EnvF (cEnv env scope cl L) := ⟨h, hE.glob, hE.bi⟩

theorem filter_tt {α : Type} (l : List α) : l.filter (fun _ => true) = l := by simp

theorem pickD_mem {ds : List D} {a b c : Option Int} {d : D} (h : d ∈ pickD ds a b c) : d ∈ ds := by
  unfold pickD at h
  obtain ⟨i, _, e⟩ := List.mem_filterMap.mp h
  exact List.mem_of_getElem? e
theorem pickD_len {ds : List D} {a b c : Int} (hc : 0 < c) : (pickD ds (some a) (some b) (some c)).length ≤ ds.length := by
  unfold pickD
  refine Nat.le_trans (List.length_filterMap_le _ _) (sliceRange_length_le _ _ _ _ ?_ ?_)
  · intro _
    simp only [sliceBounds, Option.getD_some, gt_iff_lt, hc, if_true]
    constructor
    · exact Int.le_max_left _ _
    · split <;> lia
  · intro h
    exact absurd hc (by simpa [sliceBounds] using h)

theorem sum_bound : ∀ (m : List Int), (∀ x ∈ m, x.natAbs ≤ 100) → m.sum.natAbs ≤ m.length * 100
  | [], _ => by simp
  | x :: m, h => by
    have h1 := sum_bound m fun y hy => h y (List.mem_cons_of_mem _ hy)
    have h2 := h x (List.mem_cons_self ..)
    have h3 := Int.natAbs_add_le x m.sum
    rw [List.sum_cons, List.length_cons, Nat.add_mul]
    lia

theorem keep_name {x : Str} {d' : D} {ρf : List (Str × D)} (h : ρf.lookup x = none) : ∀ y d, ρf.lookup y = some d → ([(x, d')] ++ ρf).lookup y = some d := fun y d hh => by
  rw [List.singleton_append, List.lookup_cons]
  by_cases q : y = x
  · subst q; rw [h] at hh; cases hh
  · rw [show (y == x) = false from beq_eq_false_iff_ne.mpr q]; exact hh
theorem keep_pair {x z : Str} {a c : D} {ρf : List (Str × D)} (h : ρf.lookup x = none) (h2 : ρf.lookup z = none) : ∀ y d, ρf.lookup y = some d → (nm2 x z (.tup [a, c]) ++ ρf).lookup y = some d := fun y d hh => by
  show ((z, c) :: (x, a) :: ρf).lookup y = some d
  rw [List.lookup_cons, List.lookup_cons]
  by_cases q : y = z
  · subst q; rw [h2] at hh; cases hh
  · rw [show (y == z) = false from beq_eq_false_iff_ne.mpr q]
    by_cases q : y = x
    · subst q; rw [h] at hh; cases hh
    · rw [show (y == x) = false from beq_eq_false_iff_ne.mpr q]; exact hh

noncomputable def begunL : List Int := [4, -7, 9, 0, -2, 15, 1, -11, 6]
noncomputable def addend (scr : List Int) (size : Int) (i : Int) : List Int := (pickD (scr.map D.int) (some i) (some 63) (some size)).map fun d => (keyI d).fmod 100 - 40
noncomputable def numI (scr : List Int) (size : Int) (i : Int) : Int := begunL.getD i.toNat 0 + (addend scr size i).sum
noncomputable def numsOf (scr : List Int) (size : Nat) : List Int := (List.range size).map fun i : Nat => numI scr size i

theorem addend_bd {scr : List Int} {size i : Int} (hs : 0 < size) (hl : scr.length ≤ 63) : (∀ x ∈ addend scr size i, x.natAbs ≤ 100) ∧ (addend scr size i).length ≤ 63 := by
  constructor
  · intro x hx
    obtain ⟨d, _, rfl⟩ := List.mem_map.mp hx
    rw [Int.fmod_eq_emod_of_nonneg _ (by decide)]
    have := Int.emod_nonneg (keyI d) (b := 100) (by decide)
    have := Int.emod_lt_of_pos (keyI d) (b := 100) (by decide)
    lia
  · unfold addend
    rw [List.length_map]
    refine Nat.le_trans (pickD_len hs) ?_
    simpa using hl
theorem numsOf_len (scr : List Int) (size : Nat) : (numsOf scr size).length = size := by simp [numsOf]
theorem numsOf_bd {scr : List Int} {size : Nat} (h0 : 0 < size) (h9 : size ≤ 9) (hl : scr.length ≤ 63) : ∀ x ∈ numsOf scr size, x.natAbs < 2 ^ 20 := by
  intro x hx
  obtain ⟨i, hi, rfl⟩ := List.mem_map.mp hx
  obtain ⟨h1, h2⟩ := addend_bd (scr := scr) (size := size) (i := i) (by lia) hl
  have h3 := sum_bound _ h1
  have h4 : (begunL.getD (i : Int).toNat 0).natAbs ≤ 100 := by
    have : ∀ j, (begunL.getD j 0).natAbs ≤ 100 := fun j => by
      match j with
      | 0 | 1 | 2 | 3 | 4 | 5 | 6 | 7 | 8 => decide
      | n + 9 => simp [begunL]
    exact this _
  unfold numI
  lia

section
variable {C : Cx} {k : Nat} {env : Env} {ρ : List (Str × D)} {X : SA C}

set_option maxHeartbeats 2000000 in
theorem numbers_ok {scr : List Int} {size : Nat} (h0 : 0 < size) (h9 : size ≤ 9) (hl : scr.length ≤ 63) : Fn C (k + 1) (.ref 102) [.scr (scr.map D.int), .int size] (.list ((numsOf scr size).map D.int)) := by
  rintro vs μ A s Q E G ⟨⟩ rm ret
  rename_i v vs h r
  rcases r with ⟨h2, ⟨⟩⟩
  rename_i v2
  refine enter [(Str.ofString "script", v, .scr (scr.map D.int)), (Str.ofString "size", v2, .int size)] G rm rfl rfl rfl rfl rfl rfl rfl (by decide) rfl rfl rfl rfl rfl ⟨h, h2, trivial⟩ (fun L s₁ A' E' F rm' => ?_) ret
  have hE := F.envF
  refine x_assign F rm' (d := .list (begunL.map D.int)) (ev_list (evl_cons ev_int (evl_cons (ev_unary ev_int u_neg) (evl_cons ev_int (evl_cons ev_int (evl_cons (ev_unary ev_int u_neg) (evl_cons ev_int (evl_cons ev_int (evl_cons (ev_unary ev_int u_neg) (evl_cons ev_int evl_nil))))))))) (by show 9 ≤ 2 ^ 20; decide)) (.inr ⟨rfl, _, rfl⟩) fun s₂ F₂ => ?_
  refine x_return F₂ rm' (d := .list ((numsOf scr size).map D.int)) ?_ fun v s' F' r => F'.ret r
  have e0 : (numsOf scr size).map D.int = (((List.range size).map fun i : Nat => D.int (i : Int)).filter (fun _ => true)).map (fun d => D.int (numI scr size (keyI d))) := by
    rw [filter_tt, List.map_map]; unfold numsOf; rw [List.map_map]; rfl
  rw [e0]
  refine ev_listcomp [(Str.ofString "begun", .list (begunL.map D.int)), (Str.ofString "script", .scr (scr.map D.int)), (Str.ofString "size", .int size)] (clOf _ _) hE (ev_range hE rfl (ev_name rfl)) (goes_name (it_upto (by lia))) ⟨rfl, rfl, rfl, trivial⟩ ⟨?_, closure_ok rfl, rfl, by decide, by decide, by simp; lia, fun d => [(Str.ofString "i", d)], fun L => tgt_name (.inl rfl), fun d' hd' L X => tst_nil, fun d' hd' _ L' X => ?_, ?_⟩
  · exact ⟨⟨.inl rfl, .inr rfl, rfl, rfl, rfl⟩, ⟨.inl rfl, .inr rfl, rfl, rfl, rfl⟩, ⟨.inl rfl, .inr rfl, rfl, rfl, rfl⟩, trivial⟩
  · obtain ⟨i, hi, rfl⟩ := List.mem_map.mp hd'
    have hi' : i < size := by simpa using hi
    obtain ⟨a1, a2⟩ := addend_bd (scr := scr) (size := size) (i := i) (by lia) hl
    refine ev_binop (ev_sub (d := .int (begunL.getD (i : Int).toNat 0)) (ev_name rfl) (ev_name rfl) (sub_list (by lia) (by lia) ?_)) (ev_call (ev_builtin (cEnvF hE rfl) rfl rfl bb_sum) (evl_cons ?_ evl_nil) kp_builtin (f_sum (l := addend scr size i) (fun x hx => by have := a1 x hx; lia) (by lia))) b_add
    · have : i < begunL.length := by show i < 9; lia
      rw [Int.toNat_natCast, List.getElem?_map, List.getElem?_eq_getElem this]; simp [this]
    · have e1 : (addend scr size i).map D.int = ((pickD (scr.map D.int) (some (i : Int)) (some 63) (some (size : Int))).filter (fun _ => true)).map (fun d => D.int ((keyI d).fmod 100 - 40)) := by
        rw [filter_tt]; unfold addend; rw [List.map_map]; rfl
      rw [e1]
      refine ev_listcomp [] (clOf _ _) (cEnvF hE rfl) (ev_slice (.inr rfl) (ev_name rfl) ⟨_, rfl, ev_name rfl⟩ ⟨_, rfl, ev_int⟩ ⟨_, rfl, ev_name rfl⟩ (by simp; lia) (by simp; lia)) (goes_name it_list) trivial ⟨trivial, closure_ok rfl, rfl, by decide, by decide, ?_, fun d => [(Str.ofString "x", d)], fun L => tgt_name (.inl rfl), fun d' hd' L X => tst_nil, fun d' hd' _ L'' X => ?_, fun d' _ y d hh => nomatch hh⟩
      · have := pickD_len (ds := scr.map D.int) (a := i) (b := 63) (c := size) (by lia)
        simp at this; lia
      · obtain ⟨z, _, rfl⟩ := List.mem_map.mp (pickD_mem hd')
        exact ev_binop (ev_binop (ev_name rfl) ev_int (b_mod (by decide))) ev_int b_sub
  · exact fun d' _ => keep_name rfl
end
end Mine

open PySem PySem.W PyProof.Rows PySem.Spec PySem.Calls
set_option Elab.async false
set_option maxRecDepth 100000
set_option linter.unusedVariables false
namespace Mine
section
variable {C : Cx} {k : Nat} {A : Around} {env : Env} {cs clos : List (Str × Addr)} {ρ ρ' ρf : List (Str × D)} {own own' : List (Addr × OD)} {b b' : Heap} {f s s' s₀ : Shared} {μ μ' μ₀ μ₁ W : List Addr} {d d₁ d₂ dk : D} {ds : List D} {h' : Heap} {tk : Nat} {X : SA C} {a : Addr} {od od' : OD}
  {Q : Flow → Shared → Prop} {E : Value → Shared → Prop} {rest : List Stmt} {kvs : List (Int × Int)}

/-- a dict is no list -/
theorem own_dictL {ds : List D} : ∀ v μ h, OwnAt C (hideAll h μ) h a (.list ds) → Dt C (.dict kvs) v (wo a μ) h → Dt C (.dict kvs) v μ h := fun v μ h ho r => by
  cases r with
  | dict i n r =>
    rename_i c l
    refine .dict (i.at fun o e => ?_) n r
    obtain ⟨f4, f5⟩ := hid_inv e
    refine hid_get f4 fun hm => f5 (mem_wo.mpr ⟨hm, fun q => ?_⟩)
    obtain ⟨vs, ⟨n', p⟩, _⟩ := ho
    obtain ⟨o'', es, ep, p2, _, q2, _⟩ := i
    rw [q, p] at f4
    cases f4
    rw [e] at p2
    cases p2
    cases q2

theorem ev_dict0 {pos : Pos} : Ev C k env ρ X (.Dict [] [] pos) (.dict []) := by
  intro μ A s Q E G p rm ret
  refine wpAny_Dict_empty (new_ret (tk := s.toks) G ret fun h1 h2 => .dict (l := []) ?_ G.sysmod .nil)
  exact (Heap.DictOf.new s.heap).at fun o e => hid_get e G.new

theorem Sees.grow {h : Heap} (gx : Ext (hideAll h μ) (hideAll h' μ')) (x : Ext h h') (hs : Sees C env ρ μ h) : Sees C env ρ μ' h' := fun y d e => by
  obtain ⟨v, r1, r2, r3⟩ := hs y d e
  exact ⟨v, r1.mono gx, r2.keeps (KH.hid (fun _ m => m) x.kh), fun hk => let ⟨c, c1, c2, c3⟩ := r3 hk; ⟨c, c1, c2, c3.keeps x⟩⟩

theorem ev_dict1 {ke ve : Expr} {pos : Pos} {i c : Int} (hk : ∀ X, Ev C k env ρ X ke (.int i)) (hv : ∀ X, Ev C k env ρ X ve (.int c)) : Ev C k env ρ X (.Dict [some ke] [ve] pos) (.dict [(i, c)]) := by
  intro μ A s Q E G p rm ret
  have hx : Ext s.heap (s.heap.push { cls := .type "dict", data := .dict #[] }) := push_ext _ _
  have hnew := fresh_size s.heap
  have hd₀ : (s.heap.push { cls := .type "dict", data := .dict #[] }).DictOf (intKind C.prog C.w) s.heap.objs.size [] := Heap.DictOf.new s.heap
  have hsys := G.sysmod
  have hnm := G.new
  obtain ⟨D, hD⟩ : ∃ D, D = s.heap.objs.size := ⟨_, rfl⟩
  have hDt : D ∉ TB := fun m => hnm (hD ▸ G.sub _ m)
  refine wpAny_Dict_walk (knd := intKind C.prog C.w) rfl rfl (by simp) (by simp) ?_
  rw [← hD] at hd₀ hsys hnm hnew ⊢
  generalize hh₀ : s.heap.push { cls := .type "dict", data := .dict #[] } = h₀ at *
  have gx : Ext (hideAll s.heap μ) (hideAll h₀ (D :: μ)) := hid_mono fun y o n e => ⟨hx y o e, fun hm => by
    rcases List.mem_cons.mp hm with q | hm
    · rw [q, hnew] at e; cases e
    · exact n hm⟩
  have hsub : ∀ P ∈ TB, P ∈ D :: μ := fun P hP => List.mem_cons_of_mem _ (G.sub P hP)
  have G₀ : Good C (D :: μ) h₀ := G.turn gx hsub (fun y hy => by
    rcases List.mem_cons.mp hy with rfl | hy
    · obtain ⟨o, _, _, e, _⟩ := hd₀; exact ⟨o, e⟩
    · obtain ⟨o, e⟩ := G.low y hy; exact ⟨o, hx y o e⟩) fun P _ o e => hx P o e
  have p₀ : Cn C env ρ SA.tt (D :: μ) h₀ := ⟨p.1.grow gx hx, trivial⟩
  refine pairTrees_cons_walk (hk SA.tt (D :: μ) A { s with heap := h₀ } _ E G₀ p₀ rm fun v₁ h₁ tk₁ k₁ G₁ r₁ => ?_)
  refine hv SA.tt (D :: μ) A _ _ E G₁ (Cn.stable _ _ _ G₀ k₁ G₁ p₀) rm fun v₂ h₂ tk₂ k₂ G₂ r₂ => pairTrees_nil_walk ?_
  cases r₁; cases r₂
  rename_i t u
  have kh : KH h₀ h₂ := KH.trans k₁ k₂
  refine ⟨[(i, .int c u)], ?_, hd₀.at fun o e => kh D o hDt e, fun h₃ hd₃ hs₃ => ?_⟩
  · exact ⟨isInt_self i t, rfl, trivial⟩
  · have gx3 : Ext (hideAll h₂ (D :: μ)) (hideAll h₃ μ) := hid_mono fun y o n e => ⟨(hs₃.2 y fun q => n (q ▸ List.mem_cons_self ..)).trans e, fun hm => n (List.mem_cons_of_mem _ hm)⟩
    refine ret _ h₃ _ (fun y o n e => (hs₃.2 y fun q => by rw [q, hnew] at e; cases e).trans (kh y o n (hx y o e))) (G₂.turn gx3 G.sub (fun y hy => ?_) fun P hP o e => (hs₃.2 P fun q => hDt (q ▸ hP)).trans e) (.dict (hd₃.at fun o e => hid_get e hnm) hsys ?_)
    · obtain ⟨o, e⟩ := G₂.low y (List.mem_cons_of_mem _ hy)
      exact ⟨o, (hs₃.2 y fun q => hnm (q ▸ hy)).trans e⟩
    · exact .cons .nil

/-- the frame's own object is handed over: it turns no more -/
theorem Fm.settle {x : Str} (F : Fm C b f μ₀ env cs ρ [(a, od)] s) (hl : ρ.lookup x = some (.val (.ref a))) : Fm C b f μ₀ env cs ((x, od.view) :: ρ) [] s := by
  have hm : ∀ y, y ∈ Wl env cs [] → y ∈ Wl env cs [(a, od)] := fun y hy => (Wl_one_mem y).mpr (.inl hy)
  have haW : a ∈ Wl env cs [(a, od)] := (Wl_one_mem a).mpr (.inr rfl)
  have hnd := F.co.nodup
  have hnW : a ∉ Wl env cs [] := fun hq => by
    unfold Wl at hnd hq
    simp only [List.map_nil, List.map_cons, List.append_nil] at hnd hq
    rw [← List.cons_append] at hnd
    exact (List.nodup_append.mp hnd).2.2 a hq a (by simp) rfl
  have hsub : ∀ y ∈ Wl env cs [] ++ μ₀, y ∈ Wl env cs [(a, od)] ++ μ₀ := fun y hy => by
    rcases List.mem_append.mp hy with hy | hy
    · exact List.mem_append_left _ (hm y hy)
    · exact List.mem_append_right _ hy
  have gx : Ext (hideAll s.heap (Wl env cs [(a, od)] ++ μ₀)) (hideAll s.heap (Wl env cs [] ++ μ₀)) := hid_less hsub
  have han : a ∉ Wl env cs [] ++ μ₀ := fun hq => by
    rcases List.mem_append.mp hq with hq | hq
    · exact hnW hq
    · exact F.co.disj a haW hq
  have ho := F.ownd _ (List.mem_singleton.mpr rfl)
  have hv : Rep C (hideAll s.heap (Wl env cs [] ++ μ₀)) (.ref a) od.view := ho.view gx fun o e => hid_get e han
  have look : ∀ y d', ((x, od.view) :: ρ).lookup y = some d' → (y = x ∧ d' = od.view) ∨ (y ≠ x ∧ ρ.lookup y = some d') := fun y d' e => by
    rw [List.lookup_cons] at e
    by_cases q : y = x
    · subst q; simp at e; exact .inl ⟨rfl, e.symm⟩
    · rw [show (y == x) = false from beq_eq_false_iff_ne.mpr q] at e; exact .inr ⟨q, e⟩
  refine ⟨⟨F.co.same, F.co.good.less hsub fun P hP => List.mem_append_right _ (F.co.tb P hP), F.co.tb, F.co.keep, F.co.btb, ?_, fun y hy => F.co.priv y (hm y hy), fun y hy => F.co.disj y (hm y hy)⟩, F.envF, ?_, fun y c e => ?_, fun y d' e => ?_, fun p hp => nomatch hp⟩
  · unfold Wl at hnd ⊢
    simp only [List.map_nil, List.map_cons, List.append_nil] at hnd ⊢
    rw [← List.cons_append] at hnd
    exact (List.nodup_append.mp hnd).1
  · obtain ⟨m, h1, h2⟩ := F.ns
    refine ⟨m, h1, fun y d' e hk => ?_⟩
    rcases look y d' e with ⟨rfl, rfl⟩ | ⟨_, e⟩
    · obtain ⟨v, e1, e2⟩ := h2 y _ hl hk
      cases e2
      exact ⟨_, e1, hv⟩
    · obtain ⟨v, e1, e2⟩ := h2 y d' e hk
      exact ⟨v, e1, e2.mono gx⟩
  · obtain ⟨e1, ov, c1, h2⟩ := F.cell y c e
    refine ⟨e1, ov, c1, fun d' ed hk => ?_⟩
    rcases look y d' ed with ⟨rfl, rfl⟩ | ⟨_, ed⟩
    · obtain ⟨v, q1, q2⟩ := h2 _ hl hk
      cases q2
      exact ⟨_, q1, hv⟩
    · obtain ⟨v, q1, q2⟩ := h2 d' ed hk
      exact ⟨v, q1, q2.mono gx⟩
  · rcases look y d' e with ⟨rfl, rfl⟩ | ⟨_, e⟩
    · rcases F.kinds y _ hl with h | h | ⟨h1, h2, c, v, h3, h4, h5, h6, h7⟩
      · exact .inl h
      · exact .inr (.inl h)
      · cases h7
        exact .inr (.inr ⟨h1, h2, c, _, h3, fun q => h4 (hm c q), h5, h6, hv⟩)
    · rcases F.kinds y d' e with h | h | ⟨h1, h2, c, v, h3, h4, h5, h6, h7⟩
      · exact .inl h
      · exact .inr (.inl h)
      · exact .inr (.inr ⟨h1, h2, c, v, h3, fun q => h4 (hm c q), h5, h6, h7.mono gx⟩)
end
end Mine

open PySem PySem.W PyProof.Rows PySem.Spec PySem.Calls
set_option Elab.async false
set_option maxRecDepth 100000
set_option linter.unusedVariables false
namespace Mine

noncomputable def fstI : D → Int
  | .tup [.int a, .int _] => a
  | _ => 0
noncomputable def sndI : D → Int
  | .tup [.int _, .int b] => b
  | _ => 0

/-- one number more to choose from -/
noncomputable def stepC (p : Int) (acc : List (Int × Int)) (x : Int) : List (Int × Int) := acc ++ (acc.filter fun q => decide (q.1 < p)).map fun q => (q.1 + 1, q.2 + x)
noncomputable def choices (p : Int) (l : List Int) : List (Int × Int) := l.foldl (stepC p) [(0, 0)]
theorem choices_snoc (p : Int) (l : List Int) (x : Int) : choices p (l ++ [x]) = stepC p (choices p l) x := by unfold choices; rw [List.foldl_append]; rfl
theorem stepC_le (p : Int) (acc : List (Int × Int)) (x : Int) : (stepC p acc x).length ≤ 2 * acc.length := by
  unfold stepC
  have := List.length_filter_le (fun q : Int × Int => decide (q.1 < p)) acc
  simp only [List.length_append, List.length_map]
  lia
theorem choices_le (p : Int) : ∀ (l : List Int) (acc : List (Int × Int)), (l.foldl (stepC p) acc).length ≤ 2 ^ l.length * acc.length
  | [], acc => by simp
  | x :: l, acc => by
    have h1 := choices_le p l (stepC p acc x)
    have h2 := stepC_le p acc x
    rw [List.foldl_cons, List.length_cons, Nat.pow_succ]
    have h3 : 2 ^ l.length * (stepC p acc x).length ≤ 2 ^ l.length * (2 * acc.length) := Nat.mul_le_mul_left _ h2
    rw [Nat.mul_assoc]
    lia
theorem choices_len {p : Int} {l : List Int} (h : l.length ≤ 9) : (choices p l).length ≤ 512 := by
  have h1 := choices_le p l [(0, 0)]
  have h2 : 2 ^ l.length ≤ 2 ^ 9 := Nat.pow_le_pow_right (by decide) h
  simp only [List.length_singleton, Nat.mul_one] at h1
  exact Nat.le_trans h1 h2
noncomputable def sumsOf (p : Int) (l : List Int) : List Int := ((choices p l).filter fun q => q.1 == p).map (·.2)

section
variable {C : Cx} {k : Nat} {env : Env} {ρ : List (Str × D)} {X : SA C}

set_option maxHeartbeats 2000000 in
theorem all_sums_ok {l : List Int} {p : Int} (hz : l.length ≤ 9) : Fn C (k + 1) (.ref 159) [.list (l.map D.int), .int p] (.list ((sumsOf p l).map D.int)) := by
  rintro vs μ A s Q E G ⟨⟩ rm ret
  rename_i v vs h r
  rcases r with ⟨h2, ⟨⟩⟩
  rename_i v2
  refine enter [(Str.ofString "numbers", v, .list (l.map D.int)), (Str.ofString "p", v2, .int p)] G rm rfl rfl rfl rfl rfl rfl rfl (by decide) rfl rfl rfl rfl rfl ⟨h, h2, trivial⟩ (fun L s₁ A' E' F rm' => ?_) ret
  have hE := F.envF
  refine x_assign F rm' (ev_list (evl_cons (ev_tuple (evl_cons ev_int (evl_cons ev_int evl_nil))) evl_nil)) (.inl rfl) fun s₂ F₂ => ?_
  refine x_for (fun i => [(Str.ofString "p", .int p), (Str.ofString "choices", .list ((choices p (l.take i)).map tupD))]) (fun _ => []) F₂ rm' (ev_name rfl) it_list (.inr ⟨rfl, _, rfl⟩) (fun _ => rfl) rfl (weak_all ⟨rfl, rfl, trivial⟩) ?_ ?_
  · intro i d' hd' b' μ' s' E' F'
    obtain ⟨x, e1, rfl, e2⟩ := map_at hd'
    have hc := choices_len (p := p) (l := l.take i) (by rw [List.length_take]; lia)
    have e3 : (choices p (l.take (i + 1))).map tupD = (choices p (l.take i)).map tupD ++ (((choices p (l.take i)).map tupD).filter (fun d => decide (fstI d < p))).map (fun d => tupD (fstI d + 1, sndI d + x)) := by
      rw [e2, choices_snoc]
      unfold stepC
      rw [List.map_append, List.filter_map, List.map_map, List.map_map]
      rfl
    have hpair : ∀ d ∈ (choices p (l.take i)).map tupD, ∃ a c, d = .tup [.int a, .int c] := fun d hd => by
      obtain ⟨q, _, rfl⟩ := List.mem_map.mp hd; exact ⟨_, _, rfl⟩
    have hpair' : ∀ d ∈ (choices p (l.take i)).map tupD, ∃ a c, d = .tup [a, c] := fun d hd => let ⟨a, c, e⟩ := hpair d hd; ⟨_, _, e⟩
    refine x_assign F' rm' (ev_binop (ev_name rfl) (ev_listcomp (q := fun d => decide (fstI d < p)) (g := fun d => tupD (fstI d + 1, sndI d + x)) [(Str.ofString "p", .int p), (Str.ofString "x", .int x)] (clOf _ _) hE (ev_name rfl) (goes_list hpair') ⟨rfl, rfl, trivial⟩ ⟨?_, closure_ok rfl, rfl, by decide, by decide, by rw [List.length_map]; lia, nm2 _ _, fun L => tgt_pair (.inl rfl) (.inl rfl) hpair', fun d' hd' L X => ?_, fun d' hd' _ L' X => ?_, ?_⟩) (b_addList ?_)) (.inl rfl) fun s'' F'' => x_nil ⟨rfl, ?_⟩
    · exact ⟨⟨.inl rfl, .inr rfl, rfl, rfl, rfl⟩, ⟨.inl rfl, .inr rfl, rfl, rfl, rfl⟩, trivial⟩
    · obtain ⟨a, c, rfl⟩ := hpair d' hd'
      exact tst_one (evb_compare (ev_name rfl) (ev_name rfl) c_lt)
    · obtain ⟨a, c, rfl⟩ := hpair d' hd'
      exact ev_tuple (evl_cons (ev_binop (ev_name rfl) ev_int b_add) (evl_cons (ev_binop (ev_name rfl) (ev_name rfl) b_add) evl_nil))
    · intro d' hd'
      obtain ⟨a, c, rfl⟩ := hpair d' hd'
      exact keep_pair rfl rfl
    · have := List.length_filter_le (fun d => decide (fstI d < p)) ((choices p (l.take i)).map tupD)
      simp only [List.length_map] at this ⊢
      lia
    · rw [e3]
      exact F''.weak (weak_all ⟨rfl, rfl, trivial⟩)
  · intro s₃ F₃
    rw [List.length_map, List.take_length] at F₃
    have hc := choices_len (p := p) (l := l) hz
    have hpair : ∀ d ∈ (choices p l).map tupD, ∃ a c, d = .tup [.int a, .int c] := fun d hd => by
      obtain ⟨q, _, rfl⟩ := List.mem_map.mp hd; exact ⟨_, _, rfl⟩
    have hpair' : ∀ d ∈ (choices p l).map tupD, ∃ a c, d = .tup [a, c] := fun d hd => let ⟨a, c, e⟩ := hpair d hd; ⟨_, _, e⟩
    have e4 : (sumsOf p l).map D.int = (((choices p l).map tupD).filter (fun d => fstI d == p)).map (fun d => D.int (sndI d)) := by
      unfold sumsOf
      rw [List.filter_map, List.map_map, List.map_map]
      rfl
    rw [e4]
    refine x_return F₃ rm' (ev_listcomp (q := fun d => fstI d == p) (g := fun d => D.int (sndI d)) [(Str.ofString "p", .int p)] (clOf _ _) hE (ev_name rfl) (goes_list hpair') ⟨rfl, trivial⟩ ⟨?_, closure_ok rfl, rfl, by decide, by decide, by rw [List.length_map]; lia, nm2 _ _, fun L => tgt_pair (.inl rfl) (.inl rfl) hpair', fun d' hd' L X => ?_, fun d' hd' _ L' X => ?_, ?_⟩) fun v s' F' r => F'.ret r
    · exact ⟨⟨.inl rfl, .inr rfl, rfl, rfl, rfl⟩, trivial⟩
    · obtain ⟨a, c, rfl⟩ := hpair d' hd'
      exact tst_one (evb_compare (ev_name rfl) (ev_name rfl) c_eq)
    · obtain ⟨a, c, rfl⟩ := hpair d' hd'
      exact ev_name rfl
    · intro d' hd'
      obtain ⟨a, c, rfl⟩ := hpair d' hd'
      exact keep_pair rfl rfl
end
end Mine

open PySem PySem.W PyProof.Rows PySem.Spec PySem.Calls
set_option Elab.async false
set_option linter.unusedVariables false
set_option linter.unusedSimpArgs false
namespace Mine

noncomputable def putF (acc : List Int) (x : Int) : List Int := if acc.any (· == x) then acc else acc ++ [x]
noncomputable def firsts (L : List Int) : List Int := L.foldl putF []
noncomputable def tal (L : List Int) : List (Int × Int) := (firsts L).map fun r => (r, ((L.count r : Nat) : Int))

theorem any_mem {acc : List Int} {x : Int} : acc.any (· == x) = true ↔ x ∈ acc := by
  simp [List.any_eq_true]
theorem putF_in {acc : List Int} {x : Int} (h : x ∈ acc) : putF acc x = acc := by unfold putF; rw [if_pos (any_mem.mpr h)]
theorem putF_out {acc : List Int} {x : Int} (h : x ∉ acc) : putF acc x = acc ++ [x] := by unfold putF; rw [if_neg (fun q => h (any_mem.mp q))]
theorem putF_mem {acc : List Int} {x y : Int} : y ∈ putF acc x ↔ y ∈ acc ∨ y = x := by
  by_cases h : x ∈ acc
  · rw [putF_in h]; exact ⟨.inl, fun q => q.elim id fun e => e ▸ h⟩
  · rw [putF_out h]; simp
theorem putF_nodup {acc : List Int} {x : Int} (h : acc.Nodup) : (putF acc x).Nodup := by
  by_cases hx : x ∈ acc
  · rw [putF_in hx]; exact h
  · rw [putF_out hx, List.nodup_append]
    exact ⟨h, by simp, fun a ha b hb => by rw [List.mem_singleton.mp hb]; exact fun q => hx (q ▸ ha)⟩
theorem foldF_mem : ∀ (L acc : List Int) (y : Int), y ∈ L.foldl putF acc ↔ y ∈ acc ∨ y ∈ L
  | [], acc, y => by simp
  | x :: L, acc, y => by
    rw [List.foldl_cons, foldF_mem L, putF_mem, List.mem_cons]
    constructor
    · rintro ((h | h) | h)
      · exact .inl h
      · exact .inr (.inl h)
      · exact .inr (.inr h)
    · rintro (h | h | h)
      · exact .inl (.inl h)
      · exact .inl (.inr h)
      · exact .inr h
theorem foldF_nodup : ∀ (L acc : List Int), acc.Nodup → (L.foldl putF acc).Nodup
  | [], acc, h => h
  | x :: L, acc, h => foldF_nodup L _ (putF_nodup h)
theorem firsts_mem {L : List Int} {y : Int} : y ∈ firsts L ↔ y ∈ L := by unfold firsts; rw [foldF_mem]; simp
theorem firsts_nodup (L : List Int) : (firsts L).Nodup := foldF_nodup L [] .nil

/-- folding in a list, or its firsts -/
theorem foldF_firsts : ∀ (M acc acc' : List Int), acc.Nodup → (∀ y, y ∈ acc' → y ∈ acc) → (acc'.Nodup) → (M.foldl putF acc').foldl putF acc = M.foldl putF acc := by
  intro M acc acc' hn hsub hn'
  -- what acc' holds stands in acc already
  have base : ∀ (l : List Int) (acc : List Int), (∀ y ∈ l, y ∈ acc) → l.foldl putF acc = acc := by
    intro l
    induction l with
    | nil => intro acc _; rfl
    | cons y l ih => intro acc h; rw [List.foldl_cons, putF_in (h y (List.mem_cons_self ..))]; exact ih acc fun z hz => h z (List.mem_cons_of_mem _ hz)
  have main : ∀ (M acc acc' : List Int), (M.foldl putF acc').foldl putF acc = M.foldl putF (acc'.foldl putF acc) := by
    intro M
    induction M with
    | nil => intro acc acc'; rfl
    | cons x M ih =>
      intro acc acc'
      rw [List.foldl_cons, ih, List.foldl_cons]
      congr 1
      by_cases hx : x ∈ acc'
      · rw [putF_in hx, putF_in]
        exact (foldF_mem acc' acc x).mpr (.inr hx)
      · rw [putF_out hx, List.foldl_append]; rfl
  rw [main, base acc' acc hsub]
theorem firsts_app (L M : List Int) : firsts (L ++ M) = (firsts M).foldl putF (firsts L) := by
  have h := foldF_firsts M (firsts L) [] (firsts_nodup L) (fun y hy => by simp at hy) .nil
  unfold firsts at h ⊢
  rw [List.foldl_append, h]

/- association lists -/
noncomputable def keysOf (l : List (Int × Int)) : List Int := l.map (·.1)
theorem dget_eq (l : List (Int × Int)) (x : Int) : (dget l x).isSome = true ↔ x ∈ keysOf l := by
  induction l with
  | nil => simp [dget, keysOf]
  | cons q l ih =>
    simp only [dget, List.find?_cons, keysOf, List.map_cons, List.mem_cons] at ih ⊢
    by_cases h : q.1 = x
    · simp [h]
    · simp only [h, decide_false, ih]
      constructor
      · exact .inr
      · rintro (e | e)
        · exact absurd e.symm h
        · exact e
theorem dget_none {l : List (Int × Int)} {x : Int} (h : x ∉ keysOf l) : dget l x = none := by
  cases e : dget l x with
  | none => rfl
  | some c => exact absurd ((dget_eq l x).mp (by rw [e]; rfl)) h
theorem assoc_ext : ∀ {a b : List (Int × Int)}, (keysOf a).Nodup → keysOf a = keysOf b → (∀ x ∈ keysOf a, (dget a x).getD 0 = (dget b x).getD 0) → a = b
  | [], [], _, _, _ => rfl
  | [], _ :: _, _, h, _ => by simp [keysOf] at h
  | _ :: _, [], _, h, _ => by simp [keysOf] at h
  | (k, c) :: a, (k', c') :: b, hn, hk, hg => by
    simp only [keysOf, List.map_cons, List.cons.injEq] at hk
    obtain ⟨rfl, hk⟩ := hk
    simp only [keysOf, List.map_cons, List.nodup_cons] at hn
    have h0 := hg k (by simp [keysOf])
    have hc : c = c' := by simpa [dget] using h0
    subst hc
    congr 1
    refine assoc_ext hn.2 hk fun x hx => ?_
    have hne : k ≠ x := fun q => hn.1 (q ▸ hx)
    have := hg x (by simp only [keysOf, List.map_cons, List.mem_cons]; exact .inr hx)
    simpa [dget, List.find?_cons, hne] using this

theorem dput_keys (l : List (Int × Int)) (k c : Int) : keysOf (dput l k c) = putF (keysOf l) k := by
  have hany : (l.any fun kv => decide (kv.1 = k)) = (keysOf l).any (· == k) := by
    unfold keysOf
    rw [List.any_map]
    congr 1
  unfold dput putF
  rw [hany]
  split
  · unfold keysOf
    rw [List.map_map]
    apply List.map_congr_left
    intro q hq
    simp only [Function.comp]
    split <;> rfl
  · simp [keysOf]
theorem dput_get (l : List (Int × Int)) (k c x : Int) : dget (dput l k c) x = if x = k then some c else dget l x := by
  unfold dput
  split
  · rename_i hany
    induction l with
    | nil => simp at hany
    | cons q l ih =>
      simp only [List.map_cons]
      by_cases hq : q.1 = k
      · rw [if_pos hq]
        by_cases hx : x = k
        · subst hx; simp [dget, List.find?_cons, hq]
        · have h1 : ¬ (q.1 = x) := fun e => hx (e.symm.trans hq)
          rw [if_neg hx]
          by_cases hl : (l.any fun kv => decide (kv.1 = k)) = true
          · have := ih hl
            rw [if_neg hx] at this
            simpa [dget, List.find?_cons, h1] using this
          · have e : (l.map fun kv => if kv.1 = k then (kv.1, c) else kv) = l := by
              conv => rhs; rw [← List.map_id l]
              apply List.map_congr_left
              intro z hz
              have : ¬ z.1 = k := fun e => hl (List.any_eq_true.mpr ⟨z, hz, by simpa using e⟩)
              simp [this]
            rw [e]
            simp [dget, List.find?_cons, h1]
      · rw [if_neg hq]
        have hl : (l.any fun kv => decide (kv.1 = k)) = true := by simpa [hq] using hany
        have := ih hl
        by_cases h1 : q.1 = x
        · have hx : ¬ x = k := fun e => hq (h1.trans e)
          rw [if_neg hx]
          simp [dget, List.find?_cons, h1]
        · simpa [dget, List.find?_cons, h1] using this
  · rename_i hany
    have hk : k ∉ keysOf l := fun hm => by
      obtain ⟨z, hz, e⟩ := List.mem_map.mp hm
      exact hany (List.any_eq_true.mpr ⟨z, hz, by simpa using e⟩)
    by_cases hx : x = k
    · subst hx
      have h0 := dget_none hk
      have h1 : l.find? (fun kv => decide (kv.1 = x)) = none := by
        simpa [dget] using h0
      rw [if_pos rfl]
      simp [dget, List.find?_append, h1]
    · rw [if_neg hx]
      have hx' : ¬ k = x := fun e => hx e.symm
      simp [dget, List.find?_append, hx']

noncomputable def gv (l : List (Int × Int)) (x : Int) : Int := (dget l x).getD 0
theorem dadd_keys (l : List (Int × Int)) (q : Int × Int) : keysOf (dadd l q) = putF (keysOf l) q.1 := by unfold dadd; split <;> exact dput_keys ..
theorem dadd_gv (l : List (Int × Int)) (q : Int × Int) (x : Int) : gv (dadd l q) x = gv l x + if x = q.1 then q.2 else 0 := by
  unfold dadd gv
  split
  · rename_i c hc
    rw [dput_get]
    split
    · rename_i e; subst e; rw [hc]; rfl
    · lia
  · rename_i hc
    rw [dput_get]
    split
    · rename_i e; subst e; rw [hc]; simp
    · lia
theorem foldD_keys : ∀ (s l : List (Int × Int)), keysOf (s.foldl dadd l) = (keysOf s).foldl putF (keysOf l)
  | [], l => rfl
  | q :: s, l => by rw [List.foldl_cons, foldD_keys s, dadd_keys]; rfl
theorem foldD_gv : ∀ (s l : List (Int × Int)), (keysOf s).Nodup → ∀ x, gv (s.foldl dadd l) x = gv l x + gv s x
  | [], l, _, x => by simp [gv, dget]
  | q :: s, l, hn, x => by
    simp only [keysOf, List.map_cons, List.nodup_cons] at hn
    rw [List.foldl_cons, foldD_gv s _ hn.2 x, dadd_gv]
    have : gv (q :: s) x = (if x = q.1 then q.2 else 0) + gv s x := by
      unfold gv
      by_cases h : x = q.1
      · subst h
        rw [dget_none hn.1]
        simp [dget]
      · have h' : ¬ q.1 = x := fun e => h e.symm
        simp [dget, List.find?_cons, h, h']
    rw [this]; lia

theorem tal_keys (L : List Int) : keysOf (tal L) = firsts L := by unfold keysOf tal; rw [List.map_map]; exact List.map_id _
theorem map_gv (l : List Int) (g : Int → Int) (x : Int) (h : x ∈ l) : gv (l.map fun r => (r, g r)) x = g x := by
  induction l with
  | nil => simp at h
  | cons y l ih =>
    unfold gv at ih ⊢
    by_cases e : y = x
    · subst e; simp [dget]
    · have hx : x ∈ l := by
        rcases List.mem_cons.mp h with q | q
        · exact absurd q.symm e
        · exact q
      have := ih hx
      simpa [dget, List.find?_cons, e] using this
theorem tal_gv (L : List Int) (x : Int) : gv (tal L) x = ((L.count x : Nat) : Int) := by
  by_cases h : x ∈ firsts L
  · exact map_gv _ _ x h
  · have h0 : x ∉ keysOf (tal L) := by rw [tal_keys]; exact h
    unfold gv
    rw [dget_none h0, List.count_eq_zero_of_not_mem fun q => h (firsts_mem.mpr q)]
    rfl

theorem copyD_eq : ∀ (t acc : List (Int × Int)), (keysOf (acc ++ t)).Nodup → t.foldl (fun acc p => dput acc p.1 p.2) acc = acc ++ t
  | [], acc, _ => by simp
  | q :: t, acc, h => by
    have hq : q.1 ∉ keysOf acc := fun hm => by
      unfold keysOf at h hm
      rw [List.map_append, List.nodup_append] at h
      exact h.2.2 _ hm q.1 (by simp) rfl
    have e : dput acc q.1 q.2 = acc ++ [q] := by
      unfold dput
      rw [if_neg]
      intro ha
      obtain ⟨z, hz, e⟩ := List.any_eq_true.mp ha
      exact hq (List.mem_map.mpr ⟨z, hz, by simpa using e⟩)
    rw [List.foldl_cons, e, copyD_eq t (acc ++ [q]) (by simpa using h)]
    simp
theorem join_tal (L M : List Int) : joinD (tal L) (tal M) = tal (L ++ M) := by
  have hc : copyD (tal L) = tal L := by
    unfold copyD
    rw [copyD_eq (tal L) [] (by rw [List.nil_append, tal_keys]; exact firsts_nodup L), List.nil_append]
  unfold joinD
  rw [hc]
  have hk : keysOf ((tal M).foldl dadd (tal L)) = keysOf (tal (L ++ M)) := by
    rw [foldD_keys, tal_keys, tal_keys, tal_keys, firsts_app]
  refine assoc_ext (by rw [hk, tal_keys]; exact firsts_nodup _) hk fun x _ => ?_
  have h1 := foldD_gv (tal M) (tal L) (by rw [tal_keys]; exact firsts_nodup M) x
  have h2 := tal_gv (L ++ M) x
  unfold gv at h1 h2
  rw [h1, h2]
  have h3 := tal_gv L x
  have h4 := tal_gv M x
  unfold gv at h3 h4
  rw [h3, h4, List.count_append]
  simp

/- moved -/
theorem shift_inj {p n x y : Int} (hp : 0 < p) (hx : 0 ≤ x ∧ x < p) (hy : 0 ≤ y ∧ y < p) (h : (x + n).fmod p = (y + n).fmod p) : x = y := by
  rw [Int.fmod_eq_emod_of_nonneg _ (by lia), Int.fmod_eq_emod_of_nonneg _ (by lia)] at h
  have h1 := Int.emod_emod_of_dvd (x + n) (Int.dvd_refl p)
  have h2 : (x + n - n) % p = (y + n - n) % p := by
    rw [Int.sub_emod, h, ← Int.sub_emod]
  simp only [Int.add_sub_cancel] at h2
  rwa [Int.emod_eq_of_lt hx.1 hx.2, Int.emod_eq_of_lt hy.1 hy.2] at h2

theorem firsts_map {φ : Int → Int} {L : List Int} (hi : ∀ x ∈ L, ∀ y ∈ L, φ x = φ y → x = y) : firsts (L.map φ) = (firsts L).map φ := by
  have key : ∀ (M acc : List Int), (∀ y ∈ acc, y ∈ L) → (∀ y ∈ M, y ∈ L) → (M.map φ).foldl putF (acc.map φ) = (M.foldl putF acc).map φ := by
    intro M
    induction M with
    | nil => intro acc _ _; rfl
    | cons x M ih =>
      intro acc ha hM
      have hx := hM x (List.mem_cons_self ..)
      rw [List.map_cons, List.foldl_cons, List.foldl_cons]
      have e : putF (acc.map φ) (φ x) = (putF acc x).map φ := by
        by_cases h : x ∈ acc
        · rw [putF_in h, putF_in (List.mem_map.mpr ⟨x, h, rfl⟩)]
        · rw [putF_out h, putF_out]
          · simp
          · intro hm
            obtain ⟨y, hy, e⟩ := List.mem_map.mp hm
            exact h (hi y (ha y hy) x hx e ▸ hy)
      rw [e]
      exact ih _ (fun y hy => (putF_mem.mp hy).elim (ha y) fun e => e ▸ hx) fun y hy => hM y (List.mem_cons_of_mem _ hy)
  exact key L [] (fun y hy => by simp at hy) fun y hy => hy
theorem count_map {φ : Int → Int} {L : List Int} {x : Int} (hx : x ∈ L) (hi : ∀ x ∈ L, ∀ y ∈ L, φ x = φ y → x = y) : (L.map φ).count (φ x) = L.count x := by
  have key : ∀ M : List Int, (∀ y ∈ M, y ∈ L) → (M.map φ).count (φ x) = M.count x := by
    intro M
    induction M with
    | nil => intro _; rfl
    | cons y M ih =>
      intro hM
      rw [List.map_cons, List.count_cons, List.count_cons, ih fun z hz => hM z (List.mem_cons_of_mem _ hz)]
      congr 1
      by_cases h : y = x
      · subst h; simp
      · have : ¬ φ y = φ x := fun e => h (hi y (hM y (List.mem_cons_self ..)) x hx e)
        simp [h, this]
  exact key L fun y hy => hy
theorem move_tal {L : List Int} {n p : Int} (hp : 0 < p) (hL : ∀ x ∈ L, 0 ≤ x ∧ x < p) : movedD (tal L) n p = tal (L.map fun x => (x + n).fmod p) := by
  have hi : ∀ x ∈ L, ∀ y ∈ L, (x + n).fmod p = (y + n).fmod p → x = y := fun x hx y hy h => shift_inj hp (hL x hx) (hL y hy) h
  have e1 : movedD (tal L) n p = ((firsts L).map fun r => ((r + n).fmod p, gv (tal L) r)).foldl (fun acc p => dput acc p.1 p.2) [] := by
    unfold movedD
    have : ((tal L).map fun q => D.int q.1) = (firsts L).map D.int := by
      unfold tal; rw [List.map_map]; rfl
    rw [this, List.foldl_map, List.foldl_map]
    rfl
  have hmap := firsts_map (φ := fun x => (x + n).fmod p) hi
  have e2 : keysOf ((firsts L).map fun r => ((r + n).fmod p, gv (tal L) r)) = firsts (L.map fun x => (x + n).fmod p) := by
    rw [hmap]; unfold keysOf; rw [List.map_map]; rfl
  rw [e1, copyD_eq _ [] (by rw [List.nil_append, e2]; exact firsts_nodup _), List.nil_append]
  unfold tal
  rw [hmap, List.map_map]
  apply List.map_congr_left
  intro r hr
  simp only [Function.comp]
  have hr' := firsts_mem.mp hr
  have h1 := tal_gv L r
  have h2 := count_map (φ := fun x => (x + n).fmod p) hr' hi
  unfold tal at h1
  rw [h1]
  simp only [h2]

/-- the keys are few -/
theorem nodup_le : ∀ (p : Nat) (l : List Int), l.Nodup → (∀ x ∈ l, 0 ≤ x ∧ x < p) → l.length ≤ p
  | 0, [], _, _ => by simp
  | 0, x :: l, _, h => by have := h x (List.mem_cons_self ..); lia
  | p + 1, l, hn, h => by
    have h1 := nodup_le p (l.filter fun x => decide (x ≠ (p : Int))) (hn.sublist List.filter_sublist) fun x hx => by
      obtain ⟨a, b⟩ := List.mem_filter.mp hx
      have := h x a
      simp at b
      lia
    have h2 : l.length ≤ (l.filter fun x => decide (x ≠ (p : Int))).length + 1 := by
      clear h1 h
      induction l with
      | nil => simp
      | cons y l ih =>
        rw [List.nodup_cons] at hn
        by_cases hy : y = p
        · subst hy
          have : (l.filter fun x => decide (x ≠ (p : Int))) = l := by
            rw [List.filter_eq_self]
            intro z hz
            simp
            exact fun e => hn.1 (e ▸ hz)
          have e2 : ((p : Int) :: l).filter (fun x => decide (x ≠ (p : Int))) = l := by
            rw [List.filter_cons_of_neg (by simp), this]
          rw [e2]; simp
        · have h3 := ih hn.2
          have e2 : (y :: l).filter (fun x => decide (x ≠ (p : Int))) = y :: l.filter (fun x => decide (x ≠ (p : Int))) := List.filter_cons_of_pos (by simpa using hy)
          rw [e2, List.length_cons, List.length_cons]; lia
    lia
theorem tal_len {L : List Int} {p : Nat} (h : ∀ x ∈ L, 0 ≤ x ∧ x < p) : (tal L).length ≤ p := by
  have : (tal L).length = (firsts L).length := by unfold tal; simp
  rw [this]
  exact nodup_le p _ (firsts_nodup L) fun x hx => h x (firsts_mem.mp hx)
theorem count_one {S : List Int} {x : Int} (hn : S.Nodup) (hx : x ∈ S) : (S.map fun r => if r = x then (1 : Int) else 0).sum = 1 := by
  induction S with
  | nil => simp at hx
  | cons y S ih =>
    rw [List.nodup_cons] at hn
    rw [List.map_cons, List.sum_cons]
    by_cases h : y = x
    · subst h
      have : ∀ T : List Int, y ∉ T → (T.map fun r => if r = y then (1 : Int) else 0).sum = 0 := by
        intro T
        induction T with
        | nil => intro _; rfl
        | cons z T ih =>
          intro hz
          simp only [List.mem_cons, not_or] at hz
          rw [List.map_cons, List.sum_cons, ih hz.2, if_neg (fun e => hz.1 e.symm)]
          rfl
      rw [this S hn.1, if_pos rfl]; rfl
    · rw [if_neg h, ih hn.2 ((List.mem_cons.mp hx).resolve_left fun e => h e.symm)]; rfl
theorem count_sum {S : List Int} (hn : S.Nodup) : ∀ L : List Int, (∀ x ∈ L, x ∈ S) → (S.map fun r => ((L.count r : Nat) : Int)).sum = (L.length : Int)
  | [], _ => by
    have : ∀ T : List Int, (T.map fun r => ((([] : List Int).count r : Nat) : Int)).sum = 0 := by
      intro T
      induction T with
      | nil => rfl
      | cons z T ih => rw [List.map_cons, List.sum_cons, ih]; rfl
    exact this S
  | x :: L, h => by
    have ih := count_sum hn L fun y hy => h y (List.mem_cons_of_mem _ hy)
    have h1 := count_one hn (h x (List.mem_cons_self ..))
    have h2 : ∀ T : List Int, (T.map fun r => (((x :: L).count r : Nat) : Int)).sum = (T.map fun r => ((L.count r : Nat) : Int)).sum + (T.map fun r => if r = x then (1 : Int) else 0).sum := by
      intro T
      induction T with
      | nil => rfl
      | cons z T ih =>
        rw [List.map_cons, List.map_cons, List.map_cons, List.sum_cons, List.sum_cons, List.sum_cons, ih, List.count_cons]
        by_cases e : z = x
        · subst e; simp; lia
        · have e' : ¬ x = z := fun q => e q.symm
          simp [e, e']; lia
    rw [h2, ih, h1, List.length_cons]; rfl
theorem tal_sum (L : List Int) : ((tal L).map (·.2)).sum = (L.length : Int) := by
  unfold tal
  rw [List.map_map]
  exact count_sum (firsts_nodup L) L fun x hx => firsts_mem.mpr hx
end Mine

open PySem PySem.W PyProof.Rows PySem.Spec PySem.Calls
set_option Elab.async false
set_option maxRecDepth 100000
set_option linter.unusedVariables false
set_option linter.unusedSimpArgs false
namespace Mine

/-- the sums of the choices along a row of numbers -/
noncomputable def alSums (f : Nat → Int) (p : Nat) : Nat → List Int
  | 0 => [f (2 * p - 2)]
  | i + 1 => (alSums f p i).map (· + f i) ++ (alSums f p i).map (· + f (i + p - 1))
theorem alSums_len (f : Nat → Int) (p : Nat) : ∀ i, (alSums f p i).length = 2 ^ i
  | 0 => rfl
  | i + 1 => by simp only [alSums, List.length_append, List.length_map, alSums_len f p i, Nat.pow_succ]; lia

theorem int_list {l : List Int} {i : Nat} (h : i < l.length) : (l.map D.int)[i]? = some (.int (l.getD i 0)) := by simp [h]
theorem tup_list {l : List (Int × Int)} {i : Nat} (h : i < l.length) : (l.map tupD)[i]? = some (tupD (l.getD i (0, 0))) := by simp [h]
theorem ints_map (l : List Int) (g : Int → Int) : ((l.map D.int).filter (fun _ => true)).map (fun d => D.int (g (keyI d))) = (l.map g).map D.int := by
  rw [filter_tt, List.map_map, List.map_map]; rfl

section
variable {C : Cx} {k : Nat} {env : Env} {ρ : List (Str × D)} {X : SA C}

set_option maxHeartbeats 2000000 in
theorem sums_along_ok {l o : List Int} {p : Nat} (hp : 1 ≤ p) (hp2 : p ≤ 5) (ho : o.length = 2 * p - 1) (hb : ∀ x ∈ o, 0 ≤ x ∧ x < l.length) (hz : l.length ≤ 100) : Fn C (k + 1) (.ref 164) [.list (l.map D.int), .list (o.map D.int), .int p] (.list ((alSums (fun i => l.getD (o.getD i 0).toNat 0) p (p - 1)).map D.int)) := by
  rintro vs μ A s Q E G ⟨⟩ rm ret
  rename_i v vs h r
  rcases r with ⟨h2, ⟨h3, ⟨⟩⟩⟩
  rename_i v2 v3
  refine enter [(Str.ofString "numbers", v, .list (l.map D.int)), (Str.ofString "order", v2, .list (o.map D.int)), (Str.ofString "p", v3, .int p)] G rm rfl rfl rfl rfl rfl rfl rfl (by decide) rfl rfl rfl rfl rfl ⟨h, h2, h3, trivial⟩ (fun L s₁ A' E' F rm' => ?_) ret
  have hE := F.envF
  obtain ⟨f, hf⟩ : ∃ f : Nat → Int, f = fun i => l.getD (o.getD i 0).toNat 0 := ⟨_, rfl⟩
  rw [← hf]
  have hat : ∀ i, i < o.length → 0 ≤ o.getD i 0 ∧ o.getD i 0 < l.length := fun i hi => by
    rw [show o.getD i 0 = o[i] by simp [hi]]; exact hb _ (List.getElem_mem _)
  have hnum : ∀ i, i < o.length → (l.map D.int)[(o.getD i 0).toNat]? = some (.int (f i)) := fun i hi => by
    rw [hf]; exact int_list (by have := hat i hi; lia)
  have e2 : (2 : Int) * (p : Int) - 2 = ((2 * p - 2 : Nat) : Int) := by lia
  refine x_assign F rm' (d := .list [.int (f (2 * p - 2))]) (ev_list (evl_cons (ev_sub (ev_name rfl) (ev_sub (d := .int (o.getD (2 * p - 2) 0)) (ev_name rfl) (e2 ▸ ev_binop (ev_binop ev_int (ev_name rfl) (b_mul (mulOk (by decide)))) ev_int b_sub) (sub_list (by lia) (by lia) (by rw [Int.toNat_natCast]; exact int_list (by lia)))) (sub_list (hat _ (by lia)).1 (by have := (hat (2 * p - 2) (by lia)).2; lia) (hnum _ (by lia)))) evl_nil)) (.inl rfl) fun s₂ F₂ => ?_
  have e1 : (p : Int) - 1 = ((p - 1 : Nat) : Int) := by lia
  refine x_for (fun i => [(Str.ofString "numbers", .list (l.map D.int)), (Str.ofString "order", .list (o.map D.int)), (Str.ofString "p", .int p), (Str.ofString "sums", .list ((alSums f p i).map D.int))]) (fun _ => []) F₂ rm' (ev_range (n := ((p - 1 : Nat) : Int)) hE rfl (e1 ▸ ev_binop (ev_name rfl) ev_int b_sub)) (it_upto (n := p - 1) (by lia)) (.inl rfl) (fun _ => rfl) rfl (weak_all ⟨rfl, rfl, rfl, rfl, trivial⟩) ?_ ?_
  · intro i d' hd' b' μ' s' E' F'
    obtain ⟨hi, rfl⟩ := range_at hd'
    refine x_assign F' rm' (d := .int (f i)) (ev_sub (ev_name rfl) (ev_sub (d := .int (o.getD i 0)) (ev_name rfl) (ev_name rfl) (sub_list (by lia) (by lia) (by rw [Int.toNat_natCast]; exact int_list (by lia)))) (sub_list (hat _ (by lia)).1 (by have := (hat i (by lia)).2; lia) (hnum _ (by lia)))) (.inr ⟨rfl, _, rfl⟩) fun s₃ F₃ => ?_
    have e3 : (i : Int) + (p : Int) - 1 = ((i + p - 1 : Nat) : Int) := by lia
    refine x_assign F₃ rm' (d := .int (f (i + p - 1))) (ev_sub (ev_name rfl) (ev_sub (d := .int (o.getD (i + p - 1) 0)) (ev_name rfl) (e3 ▸ ev_binop (ev_binop (ev_name rfl) (ev_name rfl) b_add) ev_int b_sub) (sub_list (by lia) (by lia) (by rw [Int.toNat_natCast]; exact int_list (by lia)))) (sub_list (hat _ (by lia)).1 (by have := (hat (i + p - 1) (by lia)).2; lia) (hnum _ (by lia)))) (.inr ⟨rfl, _, rfl⟩) fun s₄ F₄ => ?_
    have hlen := alSums_len f p i
    have hpw : 2 ^ i ≤ 2 ^ 5 := Nat.pow_le_pow_right (by decide) (by lia)
    have e4 : (alSums f p (i + 1)).map D.int = (((alSums f p i).map D.int).filter (fun _ => true)).map (fun d => D.int (keyI d + f i)) ++ (((alSums f p i).map D.int).filter (fun _ => true)).map (fun d => D.int (keyI d + f (i + p - 1))) := by
      rw [ints_map _ (· + f i), ints_map _ (· + f (i + p - 1)), ← List.map_append]; rfl
    refine x_assign F₄ rm' (ev_binop
      (ev_listcomp (q := fun _ => true) (g := fun d => D.int (keyI d + f i)) [(Str.ofString "low", .int (f i))] (clOf _ _) hE (ev_name rfl) (goes_name it_list) ⟨rfl, trivial⟩ ⟨?_, closure_ok rfl, rfl, by decide, by decide, ?_, fun d => [(Str.ofString "total", d)], fun L => tgt_name (.inl rfl), fun d' hd' L X => tst_nil, fun d' hd' _ L' X => ?_, fun d' _ => keep_name rfl⟩)
      (ev_listcomp (q := fun _ => true) (g := fun d => D.int (keyI d + f (i + p - 1))) [(Str.ofString "high", .int (f (i + p - 1)))] (clOf _ _) hE (ev_name rfl) (goes_name it_list) ⟨rfl, trivial⟩ ⟨?_, closure_ok rfl, rfl, by decide, by decide, ?_, fun d => [(Str.ofString "total", d)], fun L => tgt_name (.inl rfl), fun d' hd' L X => tst_nil, fun d' hd' _ L' X => ?_, fun d' _ => keep_name rfl⟩) (b_addList ?_)) (.inl rfl) fun s₅ F₅ => x_nil ⟨rfl, ?_⟩
    · exact ⟨⟨.inl rfl, .inr rfl, rfl, rfl, rfl⟩, trivial⟩
    · rw [List.length_map, hlen]; lia
    · obtain ⟨z, _, rfl⟩ := List.mem_map.mp hd'
      exact ev_binop (ev_name rfl) (ev_name rfl) b_add
    · exact ⟨⟨.inl rfl, .inr rfl, rfl, rfl, rfl⟩, trivial⟩
    · rw [List.length_map, hlen]; lia
    · obtain ⟨z, _, rfl⟩ := List.mem_map.mp hd'
      exact ev_binop (ev_name rfl) (ev_name rfl) b_add
    · rw [filter_tt]; simp only [List.length_map, hlen]; lia
    · rw [e4]
      exact F₅.weak (weak_all ⟨rfl, rfl, rfl, rfl, trivial⟩)
  · intro s₃ F₃
    rw [List.length_map, List.length_range] at F₃
    exact x_return F₃ rm' (ev_name rfl) fun v s' F' r => F'.ret r
end
end Mine

open PySem PySem.W PyProof.Rows PySem.Spec PySem.Calls
set_option Elab.async false
set_option maxRecDepth 100000
set_option linter.unusedVariables false
set_option linter.unusedSimpArgs false
namespace Mine
section
variable {C : Cx} {k : Nat} {env : Env} {ρ : List (Str × D)} {X : SA C}

set_option maxHeartbeats 2000000 in
theorem told_ok {l : List Int} {p : Int} (hp : p ≠ 0) (hz : l.length ≤ 1000) : Fn C (k + 1) (.ref 169) [.list (l.map D.int), .int p] (.list ((tal (l.map fun x => x.fmod p)).map tupD)) := by
  rintro vs μ A s Q E G ⟨⟩ rm ret
  rename_i v vs h r
  rcases r with ⟨h2, ⟨⟩⟩
  rename_i v2
  refine enter [(Str.ofString "sums", v, .list (l.map D.int)), (Str.ofString "p", v2, .int p)] G rm rfl rfl rfl rfl rfl rfl rfl (by decide) rfl rfl rfl rfl rfl ⟨h, h2, trivial⟩ (fun L s₁ A' E' F rm' => ?_) ret
  have hE := F.envF
  refine x_assign F rm' (ev_listcomp (q := fun _ => true) (g := fun d => D.int ((keyI d).fmod p)) [(Str.ofString "p", .int p)] (clOf _ _) hE (ev_name rfl) (goes_name it_list) ⟨rfl, trivial⟩ ⟨?_, closure_ok rfl, rfl, by decide, by decide, by rw [List.length_map]; lia, fun d => [(Str.ofString "total", d)], fun L => tgt_name (.inl rfl), fun d' hd' L X => tst_nil, fun d' hd' _ L' X => ?_, fun d' _ => keep_name rfl⟩) (.inr ⟨rfl, _, rfl⟩) fun s₂ F₂ => ?_
  · exact ⟨⟨.inl rfl, .inr rfl, rfl, rfl, rfl⟩, trivial⟩
  · obtain ⟨z, _, rfl⟩ := List.mem_map.mp hd'
    exact ev_binop (ev_name rfl) (ev_name rfl) (b_mod hp)
  rw [ints_map l (fun x => x.fmod p)] at F₂
  obtain ⟨R, hR⟩ : ∃ R, R = l.map fun x => x.fmod p := ⟨_, rfl⟩
  have hRl : R.length ≤ 1000 := by rw [hR, List.length_map]; exact hz
  rw [← hR] at F₂ ⊢
  refine x_newList F₂ (.inl rfl) fun w s₃ F₃ => ?_
  refine x_for (fun i => [(Str.ofString "rests", .list (R.map D.int)), (Str.ofString "firsts", .val (.ref w))]) (fun i => [(w, .list ((firsts (R.take i)).map D.int))]) F₃ rm' (ev_name rfl) it_list (.inl rfl) (fun _ => rfl) rfl (weak_all ⟨rfl, rfl, trivial⟩) ?_ ?_
  · intro i d' hd' b' μ' s' E' F'
    obtain ⟨x, e1, rfl, e2⟩ := map_at hd'
    have e3 : firsts (R.take (i + 1)) = putF (firsts (R.take i)) x := by rw [e2]; unfold firsts; rw [List.foldl_append]; rfl
    have hle : (firsts (R.take i)).length ≤ 1000 := by
      have key : ∀ (M acc : List Int), (M.foldl putF acc).length ≤ acc.length + M.length := by
        intro M
        induction M with
        | nil => intro acc; simp
        | cons y M ih =>
          intro acc
          have h1 := ih (putF acc y)
          have h2 : (putF acc y).length ≤ acc.length + 1 := by unfold putF; split <;> simp
          rw [List.foldl_cons, List.length_cons]; lia
      have := key (R.take i) []
      rw [List.length_take] at this
      unfold firsts
      simp at this
      lia
    rw [e3]
    refine x_if F' rm' (evb_own (x := Str.ofString "firsts") rfl (evb_compare (ev_name rfl) (ev_name rfl) c_notin)) (fun hc s₄ F₄ => ?_) (fun hc s₄ F₄ => ?_)
    · have hx : x ∉ firsts (R.take i) := fun hm => by rw [any_mem.mpr hm] at hc; cases hc
      refine x_append F₄ rm' rfl (ev_name rfl) (by rw [List.length_map]; lia) fun s₅ F₅ => x_nil (x_nil ⟨rfl, ?_⟩)
      rw [putF_out hx, List.map_append]
      exact F₅.weak (weak_all ⟨rfl, rfl, trivial⟩)
    · have hx : x ∈ firsts (R.take i) := any_mem.mp (by
        cases q : (firsts (R.take i)).any (· == x) with
        | true => rfl
        | false => rw [q] at hc; cases hc)
      rw [putF_in hx]
      exact x_nil (x_nil ⟨rfl, F₄.weak (weak_all ⟨rfl, rfl, trivial⟩)⟩)
  · intro s₄ F₄
    rw [List.length_map, List.take_length] at F₄
    have F₅ := F₄.settle (x := Str.ofString "firsts") rfl
    have hfl : (firsts R).length ≤ 1000 := by
      have key : ∀ (M acc : List Int), (M.foldl putF acc).length ≤ acc.length + M.length := by
        intro M
        induction M with
        | nil => intro acc; simp
        | cons y M ih =>
          intro acc
          have h1 := ih (putF acc y)
          have h2 : (putF acc y).length ≤ acc.length + 1 := by unfold putF; split <;> simp
          rw [List.foldl_cons, List.length_cons]; lia
      have := key R []
      unfold firsts
      simp at this
      lia
    have e6 : (tal R).map tupD = (((firsts R).map D.int).filter (fun _ => true)).map (fun d => tupD (keyI d, ((R.count (keyI d) : Nat) : Int))) := by
      rw [filter_tt]; unfold tal; rw [List.map_map, List.map_map]; rfl
    rw [e6]
    refine x_return F₅ rm' (ev_listcomp (q := fun _ => true) (g := fun d => tupD (keyI d, ((R.count (keyI d) : Nat) : Int))) [(Str.ofString "rests", .list (R.map D.int))] (clOf _ _) hE (ev_name rfl) (goes_name it_list) ⟨rfl, trivial⟩ ⟨?_, closure_ok rfl, rfl, by decide, by decide, ?_, fun d => [(Str.ofString "rest", d)], fun L => tgt_name (.inl rfl), fun d' hd' L X => tst_nil, fun d' hd' _ L' X => ?_, fun d' _ => keep_name rfl⟩) fun v s' F' r => F'.ret r
    · exact ⟨⟨.inl rfl, .inr rfl, rfl, rfl, rfl⟩, trivial⟩
    · rw [List.length_map]; lia
    · obtain ⟨z, _, rfl⟩ := List.mem_map.mp hd'
      exact ev_tuple (evl_cons (ev_name rfl) (evl_cons (ev_count (ev_name rfl) (evl_cons (ev_name rfl) evl_nil)) evl_nil))

/-- the rests along a row -/
noncomputable def alTab (f : Nat → Int) (p : Nat) (i : Nat) : List (Int × Int) := tal ((alSums f p i).map fun x => x.fmod p)

theorem fmod_bd {p : Nat} (hp : 1 ≤ p) (x : Int) : 0 ≤ x.fmod p ∧ x.fmod p < p := by
  rw [Int.fmod_eq_emod_of_nonneg _ (by lia)]
  exact ⟨Int.emod_nonneg _ (by lia), Int.emod_lt_of_pos _ (by lia)⟩
theorem fmod_add {p : Nat} (x y : Int) : (x.fmod p + y).fmod p = (x + y).fmod p := by
  rw [Int.fmod_eq_emod_of_nonneg _ (by lia), Int.fmod_eq_emod_of_nonneg _ (by lia), Int.fmod_eq_emod_of_nonneg _ (by lia), Int.emod_add_emod]
theorem alTab_step (f : Nat → Int) {p : Nat} (hp : 1 ≤ p) (i : Nat) : alTab f p (i + 1) = joinD (movedD (alTab f p i) (f i) p) (movedD (alTab f p i) (f (i + p - 1)) p) := by
  have hb : ∀ x ∈ (alSums f p i).map fun x => x.fmod p, 0 ≤ x ∧ x < (p : Int) := fun x hx => by
    obtain ⟨y, _, rfl⟩ := List.mem_map.mp hx; exact fmod_bd hp y
  unfold alTab
  rw [move_tal (by lia) hb, move_tal (by lia) hb, join_tal]
  congr 1
  simp only [alSums, List.map_append, List.map_map]
  congr 1 <;> (apply List.map_congr_left; intro x _; simp only [Function.comp]; rw [fmod_add])
theorem alTab_len (f : Nat → Int) {p : Nat} (hp : 1 ≤ p) (i : Nat) : (alTab f p i).length ≤ p := tal_len fun x hx => by
  obtain ⟨y, _, rfl⟩ := List.mem_map.mp hx; exact fmod_bd hp y
theorem moved_len {L : List Int} {n : Int} {p : Nat} (hp : 1 ≤ p) (hL : ∀ x ∈ L, 0 ≤ x ∧ x < (p : Int)) : (movedD (tal L) n p).length ≤ p := by
  rw [move_tal (by lia) hL]
  exact tal_len fun x hx => by obtain ⟨y, _, rfl⟩ := List.mem_map.mp hx; exact fmod_bd hp _

set_option maxHeartbeats 2000000 in
theorem along_ok {l : List (Int × Int)} {p : Nat} (hp : 1 ≤ p) (hp2 : p ≤ 100) (hl : l.length = 2 * p - 1) (hr : ∀ q ∈ l, 0 ≤ q.1 ∧ q.1 < p) : Fn C (k + 3) (.ref 154) [.list (l.map tupD), .int p] (.dict (alTab (fun i => (l.getD i (0, 0)).1) p (p - 1))) := by
  rintro vs μ A s Q E G ⟨⟩ rm ret
  rename_i v vs h r
  rcases r with ⟨h2, ⟨⟩⟩
  rename_i v2
  refine enter [(Str.ofString "listing", v, .list (l.map tupD)), (Str.ofString "p", v2, .int p)] G rm rfl rfl rfl rfl rfl rfl rfl (by decide) rfl rfl rfl rfl rfl ⟨h, h2, trivial⟩ (fun L s₁ A' E' F rm' => ?_) ret
  have hE := F.envF
  obtain ⟨f, hf⟩ : ∃ f : Nat → Int, f = fun i => (l.getD i (0, 0)).1 := ⟨_, rfl⟩
  rw [← hf]
  have e2 : (2 : Int) * (p : Int) - 2 = ((2 * p - 2 : Nat) : Int) := by lia
  have hrow : ∀ i, i < l.length → (l.map tupD)[((i : Nat) : Int).toNat]? = some (.tup [.int (f i), .int (l.getD i (0, 0)).2]) := fun i hi => by
    rw [hf, Int.toNat_natCast]; exact tup_list hi
  have hbs : ∀ i, (alTab f p i).length ≤ p := alTab_len f hp
  have h0 : alTab f p 0 = [(f (2 * p - 2), 1)] := by
    have hm : 0 ≤ f (2 * p - 2) ∧ f (2 * p - 2) < p := by
      rw [hf]
      have hi : 2 * p - 2 < l.length := by lia
      show 0 ≤ (l.getD (2 * p - 2) (0, 0)).1 ∧ (l.getD (2 * p - 2) (0, 0)).1 < (p : Int)
      rw [show l.getD (2 * p - 2) (0, 0) = l[2 * p - 2] by simp [hi]]
      exact hr _ (List.getElem_mem _)
    have : (f (2 * p - 2)).fmod p = f (2 * p - 2) := by
      rw [Int.fmod_eq_emod_of_nonneg _ (by lia)]; exact Int.emod_eq_of_lt hm.1 hm.2
    show tal [(f (2 * p - 2)).fmod p] = _
    rw [this]
    simp [tal, firsts, putF]
  refine x_assign F rm' (d := .dict (alTab f p 0)) (h0 ▸ ev_dict1 (fun X => ev_sub (ev_sub (ev_name rfl) (e2 ▸ ev_binop (ev_binop ev_int (ev_name rfl) (b_mul (mulOk (by decide)))) ev_int b_sub) (sub_list (by lia) (by lia) (hrow _ (by lia)))) ev_int (sub_tup (by decide) (by decide) rfl)) (fun X => ev_int)) (.inl rfl) fun s₂ F₂ => ?_
  have e1 : (p : Int) - 1 = ((p - 1 : Nat) : Int) := by lia
  refine x_for (fun i => [(Str.ofString "listing", .list (l.map tupD)), (Str.ofString "p", .int p), (Str.ofString "table", .dict (alTab f p i))]) (fun _ => []) F₂ rm' (ev_range (n := ((p - 1 : Nat) : Int)) hE rfl (e1 ▸ ev_binop (ev_name rfl) ev_int b_sub)) (it_upto (n := p - 1) (by lia)) (.inl rfl) (fun _ => rfl) rfl (weak_all ⟨rfl, rfl, rfl, trivial⟩) ?_ ?_
  · intro i d' hd' b' μ' s' E' F'
    obtain ⟨hi, rfl⟩ := range_at hd'
    have hb : ∀ x ∈ (alSums f p i).map fun x => x.fmod p, 0 ≤ x ∧ x < (p : Int) := fun x hx => by
      obtain ⟨y, _, rfl⟩ := List.mem_map.mp hx; exact fmod_bd hp y
    have mv := fun n => moved_ok (C := C) (k := k + 1) (kvs := alTab f p i) (n := n) (p := p) (by lia) (by have := hbs i; lia)
    have ml := fun n => moved_len (L := (alSums f p i).map fun x => x.fmod p) (n := n) hp hb
    refine x_assign F' rm' (ev_call (ev_global hE rfl rfl) (evl_cons (ev_name rfl) (evl_cons (ev_sub (ev_sub (ev_name rfl) (ev_name rfl) (sub_list (by lia) (by lia) (hrow i (by lia)))) ev_int (sub_tup (by decide) (by decide) rfl)) (evl_cons (ev_name rfl) evl_nil))) (kp_fn rfl) (mv _)) (.inl rfl) fun s₃ F₃ => ?_
    have e3 : (i : Int) + (p : Int) - 1 = ((i + p - 1 : Nat) : Int) := by lia
    refine x_assign F₃ rm' (ev_call (ev_global hE rfl rfl) (evl_cons (ev_name rfl) (evl_cons (ev_sub (ev_sub (ev_name rfl) (e3 ▸ ev_binop (ev_binop (ev_name rfl) (ev_name rfl) b_add) ev_int b_sub) (sub_list (by lia) (by lia) (hrow (i + p - 1) (by lia)))) ev_int (sub_tup (by decide) (by decide) rfl)) (evl_cons (ev_name rfl) evl_nil))) (kp_fn rfl) (mv _)) (.inl rfl) fun s₄ F₄ => ?_
    have jn := joined_ok (C := C) (k := k) (t := movedD (alTab f p i) (f i) p) (u := movedD (alTab f p i) (f (i + p - 1)) p) (by have := ml (f i); have := ml (f (i + p - 1)); unfold alTab; lia)
    rw [← alTab_step f hp i] at jn
    refine x_assign F₄ rm' (ev_call (ev_global hE rfl rfl) (evl_cons (ev_name rfl) (evl_cons (ev_name rfl) evl_nil)) (kp_fn rfl) jn) (.inl rfl) fun s₅ F₅ => x_nil ⟨rfl, F₅.weak (weak_all ⟨rfl, rfl, rfl, trivial⟩)⟩
  · intro s₃ F₃
    rw [List.length_map, List.length_range] at F₃
    exact x_return F₃ rm' (ev_name rfl) fun v s' F' r => F'.ret r
end
end Mine

open PySem PySem.W PyProof.Rows PySem.Spec PySem.Calls
set_option Elab.async false
set_option maxRecDepth 100000
set_option linter.unusedVariables false
set_option linter.unusedSimpArgs false
namespace Mine

/-- the sums of the choices of so many -/
noncomputable def selC (p : Int) (l : List Int) (m : Int) : List Int := ((choices p l).filter fun q => q.1 == m).map (·.2)
noncomputable def tabC (p : Nat) (l : List Int) (m : Nat) : List (Int × Int) := tal ((selC p l m).map fun x => x.fmod p)

theorem choices_nn (p : Int) : ∀ (l : List Int) (acc : List (Int × Int)), (∀ q ∈ acc, 0 ≤ q.1) → ∀ q ∈ l.foldl (stepC p) acc, 0 ≤ q.1
  | [], _, h => h
  | x :: l, acc, h => choices_nn p l _ fun q hq => by
    rcases List.mem_append.mp hq with hq | hq
    · exact h q hq
    · obtain ⟨z, hz, rfl⟩ := List.mem_map.mp hq
      have := h z (List.mem_filter.mp hz).1
      show 0 ≤ z.1 + 1
      lia
theorem selC_zero (p : Int) (l : List Int) (x : Int) : selC p (l ++ [x]) 0 = selC p l 0 := by
  unfold selC
  rw [choices_snoc]
  unfold stepC
  rw [List.filter_append, List.map_append]
  have : ((((choices p l).filter fun q => decide (q.1 < p)).map fun q => (q.1 + 1, q.2 + x)).filter fun q => q.1 == 0) = [] := by
    rw [List.filter_eq_nil_iff]
    intro q hq
    obtain ⟨z, hz, rfl⟩ := List.mem_map.mp hq
    have := choices_nn p l [(0, 0)] (by intro q hq; rw [List.mem_singleton.mp hq]; decide) z (List.mem_filter.mp hz).1
    simp only [beq_iff_eq]
    lia
  rw [this, List.map_nil, List.append_nil]
theorem selC_succ {p m : Int} (l : List Int) (x : Int) (h : m < p) : selC p (l ++ [x]) (m + 1) = selC p l (m + 1) ++ (selC p l m).map (· + x) := by
  unfold selC
  rw [choices_snoc]
  unfold stepC
  rw [List.filter_append, List.map_append, List.filter_map, List.filter_filter, List.map_map, List.map_map]
  congr 1
  have : (fun a : Int × Int => ((fun q : Int × Int => q.1 == m + 1) ∘ fun q => (q.1 + 1, q.2 + x)) a && decide (a.1 < p)) = fun q => q.1 == m := by
    funext a
    by_cases e : a.1 = m
    · simp [Function.comp, e, h]
    · have : ¬ a.1 + 1 = m + 1 := by lia
      have h1 : (a.1 + 1 == m + 1) = false := by simpa using this
      have h2 : (a.1 == m) = false := by simpa using e
      simp only [Function.comp, h1, h2, Bool.false_and]
  rw [this]
  rfl

theorem tabC_step {p : Nat} (hp : 1 ≤ p) (l : List Int) (x : Int) {m : Nat} (h : m < p) : joinD (tabC p l (m + 1)) (movedD (tabC p l m) x p) = tabC p (l ++ [x]) (m + 1) := by
  have hb : ∀ y ∈ (selC p l m).map fun x => x.fmod p, 0 ≤ y ∧ y < (p : Int) := fun y hy => by
    obtain ⟨z, _, rfl⟩ := List.mem_map.mp hy; exact fmod_bd hp z
  unfold tabC
  rw [move_tal (by lia) hb, join_tal, Int.natCast_succ, selC_succ l x (by lia), List.map_append, List.map_map, List.map_map]
  congr 2
  apply List.map_congr_left
  intro y _
  exact fmod_add y x
theorem tabC_len {p : Nat} (hp : 1 ≤ p) (l : List Int) (m : Nat) : (tabC p l m).length ≤ p := tal_len fun x hx => by
  obtain ⟨y, _, rfl⟩ := List.mem_map.mp hx; exact fmod_bd hp y
theorem tabC_moved {p : Nat} (hp : 1 ≤ p) (l : List Int) (m : Nat) (x : Int) : (movedD (tabC p l m) x p).length ≤ p := moved_len hp fun y hy => by
  obtain ⟨z, _, rfl⟩ := List.mem_map.mp hy; exact fmod_bd hp z

/-- the tables in the midst of a turn: the last j have had the number -/
noncomputable def mix (p : Nat) (l : List Int) (x : Int) (j : Nat) : List D := (List.range (p + 1)).map fun m => D.dict (if p < m + j then tabC p (l ++ [x]) m else tabC p l m)
noncomputable def tabsC (p : Nat) (l : List Int) : List D := (List.range (p + 1)).map fun m => D.dict (tabC p l m)
theorem mix_zero (p : Nat) (l : List Int) (x : Int) : mix p l x 0 = tabsC p l := by
  apply List.map_congr_left
  intro m hm
  have := List.mem_range.mp hm
  rw [if_neg (by lia)]
theorem mix_all (p : Nat) (l : List Int) (x : Int) : mix p l x p = tabsC p (l ++ [x]) := by
  apply List.map_congr_left
  intro m hm
  by_cases h : 0 < m
  · rw [if_pos (by lia)]
  · obtain rfl : m = 0 := by lia
    rw [if_neg (by lia)]
    unfold tabC
    rw [Int.natCast_zero, selC_zero]
theorem mix_at {p : Nat} {l : List Int} {x : Int} {j m : Nat} (h : m ≤ p) : (mix p l x j)[m]? = some (.dict (if p < m + j then tabC p (l ++ [x]) m else tabC p l m)) := by
  unfold mix
  rw [List.getElem?_map, List.getElem?_range (by lia)]
  rfl
theorem mix_set {p : Nat} (l : List Int) (x : Int) {j : Nat} (h : j < p) : (mix p l x j).set (p - j) (.dict (tabC p (l ++ [x]) (p - j))) = mix p l x (j + 1) := by
  apply List.ext_getElem?
  intro m
  by_cases hm : m < p + 1
  · rw [List.getElem?_set, mix_at (by lia), mix_at (by lia)]
    by_cases e : p - j = m
    · subst e
      rw [if_pos rfl, if_pos (by unfold mix; rw [List.length_map, List.length_range]; lia), if_pos (by lia)]
    · rw [if_neg e]
      by_cases q : p < m + j
      · rw [if_pos q, if_pos (by lia)]
      · rw [if_neg q, if_neg (by lia)]
  · rw [List.getElem?_eq_none (by rw [List.length_set]; unfold mix; rw [List.length_map, List.length_range]; lia), List.getElem?_eq_none (by unfold mix; rw [List.length_map, List.length_range]; lia)]
theorem mix_len (p : Nat) (l : List Int) (x : Int) (j : Nat) : (mix p l x j).length = p + 1 := by unfold mix; rw [List.length_map, List.length_range]
theorem tabsC_len (p : Nat) (l : List Int) : (tabsC p l).length = p + 1 := by unfold tabsC; rw [List.length_map, List.length_range]
theorem tabsC_at {p : Nat} {l : List Int} {m : Nat} (h : m ≤ p) : (tabsC p l)[m]? = some (.dict (tabC p l m)) := by
  unfold tabsC
  rw [List.getElem?_map, List.getElem?_range (by lia)]
  rfl
theorem tabsC_nil (p : Nat) : tabsC p [] = [D.dict [(0, 1)]] ++ (((List.range p).map fun i : Nat => D.int (i : Int)).filter fun _ => true).map fun _ => D.dict [] := by
  unfold tabsC
  rw [List.range_succ_eq_map, List.map_cons, filter_tt, List.map_map, List.map_map]
  rfl
end Mine

open PySem PySem.W PyProof.Rows PySem.Spec PySem.Calls
set_option Elab.async false
set_option maxRecDepth 100000
set_option linter.unusedVariables false
set_option linter.unusedSimpArgs false
namespace Mine

theorem rng_down {p : Nat} (h : p ≤ 1000) : Builtin.Range.small ((p : Int) - 1) (-1) (-1) = true ∧ Builtin.Range.rangeSize ((p : Int) - 1) (-1) (-1) = (p : Int) := by
  have e : Builtin.Range.rangeSize ((p : Int) - 1) (-1) (-1) = (p : Int) := by
    unfold Builtin.Range.rangeSize
    rw [if_neg (by decide), show (-(-1) : Int) = 1 from rfl, Int.ediv_one]
    split <;> lia
  refine ⟨?_, e⟩
  unfold Builtin.Range.small
  rw [e, if_neg (by decide)]
  simp only [Builtin.Range.rangeFitsLong, Bool.and_eq_true, Bool.or_eq_true, decide_eq_true_eq, beq_iff_eq]
  lia

section
variable {C : Cx} {k : Nat} {env : Env} {ρ : List (Str × D)} {X : SA C}

set_option maxHeartbeats 2000000 in
theorem of_all_ok {r : List Int} {p : Nat} (hp : 1 ≤ p) (hp2 : p ≤ 100) : Fn C (k + 4) (.ref 147) [.list (r.map D.int), .int p] (.dict (tabC p r p)) := by
  rintro vs μ A s Q E G ⟨⟩ rm ret
  rename_i v vs h r'
  rcases r' with ⟨h2, ⟨⟩⟩
  rename_i v2
  refine enter [(Str.ofString "rests", v, .list (r.map D.int)), (Str.ofString "p", v2, .int p)] G rm rfl rfl rfl rfl rfl rfl rfl (by decide) rfl rfl rfl rfl rfl ⟨h, h2, trivial⟩ (fun L s₁ A' E' F rm' => ?_) ret
  have hE := F.envF
  with_reducible refine x_newConcat (ds := [.dict [(0, 1)]]) (es := (((List.range p).map fun i : Nat => D.int (i : Int)).filter fun _ => true).map fun _ => D.dict []) F rm' ?l ?r ?z ?hx ?c
  case l =>
    refine ev_list ?_
    refine evl_cons ?_ evl_nil
    refine ev_dict1 (fun X => ?_) (fun X => ?_)
    · exact ev_int
    · exact ev_int
  case r => exact ev_listcomp (q := fun _ => true) (g := fun _ => D.dict []) [] (clOf _ _) hE (ev_range (n := (p : Int)) hE rfl (ev_name rfl)) (goes_name (it_upto (by lia))) trivial ⟨trivial, closure_ok rfl, rfl, by decide, by decide, by simp; lia, fun d => [(Str.ofString "k", d)], fun L => tgt_name (.inl rfl), fun d' hd' L X => tst_nil, fun d' hd' _ L' X => ev_dict0, fun d' _ y d hh => nomatch hh⟩
  case z => rw [filter_tt]; simp; lia
  case hx => exact .inl rfl
  intro w s₂ F₂
  rw [← tabsC_nil] at F₂
  refine x_for (fun i => [(Str.ofString "p", .int p), (Str.ofString "tables", .val (.ref w))]) (fun i => [(w, .list (tabsC p (r.take i)))]) F₂ rm' (ev_name rfl) it_list (.inl rfl) (fun _ => rfl) rfl (weak_all ⟨rfl, rfl, trivial⟩) ?_ ?_
  · intro i d' hd' b' μ' s' E' F'
    obtain ⟨x, e1, rfl, e2⟩ := map_at hd'
    rw [← mix_zero p (r.take i) x] at F'
    refine x_for (fun j => [(Str.ofString "p", .int p), (Str.ofString "tables", .val (.ref w)), (Str.ofString "rest", .int x)]) (fun j => [(w, .list (mix p (r.take i) x j))]) F' rm'
      (ev_call (ev_builtin hE rfl rfl bb_range) (evl_cons (ev_binop (ev_name rfl) ev_int b_sub) (evl_cons (ev_unary ev_int u_neg) (evl_cons (ev_unary ev_int u_neg) evl_nil))) kp_type (f_range3 (by decide) (by decide))) (it_rng p (rng_down (by lia)).1 (rng_down (by lia)).2) (.inl rfl) (fun _ => rfl) rfl (weak_all ⟨rfl, rfl, rfl, trivial⟩) ?_ ?_
    · intro j d' hd' b'' μ'' s'' E'' F''
      obtain ⟨hj, rfl⟩ := range_at hd'
      have ek : (p : Int) - 1 + (j : Int) * (-1) = ((p - 1 - j : Nat) : Int) := by lia
      rw [ek] at F''
      have ek1 : ((p - 1 - j : Nat) : Int) + 1 = ((p - j : Nat) : Int) := by lia
      have mv := moved_ok (C := C) (k := k + 2) (kvs := tabC p (r.take i) (p - 1 - j)) (n := x) (p := p) (by lia) (by have := tabC_len hp (r.take i) (p - 1 - j); lia)
      have jn := joined_ok (C := C) (k := k + 1) (t := tabC p (r.take i) (p - j)) (u := movedD (tabC p (r.take i) (p - 1 - j)) x p) (by have := tabC_len hp (r.take i) (p - j); have := tabC_moved hp (r.take i) (p - 1 - j) x; lia)
      have ej : joinD (tabC p (r.take i) (p - j)) (movedD (tabC p (r.take i) (p - 1 - j)) x p) = tabC p (r.take i ++ [x]) (p - j) := by
        have := tabC_step hp (r.take i) x (m := p - 1 - j) (by lia)
        rw [show p - 1 - j + 1 = p - j by lia] at this
        exact this
      rw [ej] at jn
      have a1 : (mix p (r.take i) x j)[((p - j : Nat) : Int).toNat]? = some (.dict (tabC p (r.take i) (p - j))) := by
        rw [Int.toNat_natCast, mix_at (by lia), if_neg (by lia)]
      have a2 : (mix p (r.take i) x j)[((p - 1 - j : Nat) : Int).toNat]? = some (.dict (tabC p (r.take i) (p - 1 - j))) := by
        rw [Int.toNat_natCast, mix_at (by lia), if_neg (by lia)]
      refine x_setL (i := ((p - j : Nat) : Int)) (d := .dict (tabC p (r.take i ++ [x]) (p - j))) F'' rm' rfl (ek1 ▸ ev_binop (ev_name rfl) ev_int b_add) (ev_own (x := Str.ofString "tables") rfl (ev_call (ev_global hE rfl rfl) (evl_cons (ev_sub (ev_name rfl) (ek1 ▸ ev_binop (ev_name rfl) ev_int b_add) (sub_list (by lia) (by lia) a1)) (evl_cons (ev_call (ev_global hE rfl rfl) (evl_cons (ev_sub (ev_name rfl) (ev_name rfl) (sub_list (by lia) (by lia) a2)) (evl_cons (ev_name rfl) (evl_cons (ev_name rfl) evl_nil))) (kp_fn rfl) mv) evl_nil)) (kp_fn rfl) jn) own_dictL) (by lia) (by rw [mix_len]; lia) (by rw [mix_len]; lia) fun s₄ F₄ => x_nil ⟨rfl, ?_⟩
      rw [Int.toNat_natCast, mix_set _ _ hj] at F₄
      exact F₄.weak (weak_all ⟨rfl, rfl, rfl, trivial⟩)
    · intro s₃ F₃
      rw [List.length_map, List.length_range, mix_all, ← e2] at F₃
      exact x_nil ⟨rfl, F₃.weak (weak_all ⟨rfl, rfl, trivial⟩)⟩
  · intro s₃ F₃
    rw [List.length_map, List.take_length] at F₃
    exact x_return F₃ rm' (ev_own (x := Str.ofString "tables") rfl (ev_sub (ev_name rfl) (ev_name rfl) (sub_list (by lia) (by lia) (by rw [Int.toNat_natCast]; exact tabsC_at (Nat.le_refl _)))) own_dictL) fun v s' F' r => F'.ret r
end
end Mine

open PySem PySem.W PyProof.Rows PySem.Spec PySem.Calls
set_option Elab.async false
set_option linter.unusedVariables false
namespace Mine

noncomputable def KOk (lt : Nat → Nat → Bool) (N : Nat) {α : Type} : KasT α → (α → Prop) → Prop
  | .ret a, Q => Q a
  | .ask i j k, Q => i < N ∧ j < N ∧ KOk lt N (k (lt i j)) Q
section
variable {lt : Nat → Nat → Bool} {N : Nat} {α β : Type}
theorem KOk.bind {f : α → KasT β} {Q : β → Prop} : ∀ (t : KasT α), KOk lt N t (fun a => KOk lt N (f a) Q) → KOk lt N (t.bind f) Q
  | .ret _, h => h
  | .ask i j k, h => ⟨h.1, h.2.1, KOk.bind (k (lt i j)) h.2.2⟩
theorem KOk.ask {key : Nat → Int} {i j : Nat} {k : Bool → KasT α} {Q : α → Prop} (hi : i < N) (hj : j < N) (h1 : key i < key j → KOk (fun i j => decide (key i < key j)) N (k true) Q) (h2 : ¬ key i < key j → KOk (fun i j => decide (key i < key j)) N (k false) Q) : KOk (fun i j => decide (key i < key j)) N (.ask i j k) Q := by
  refine ⟨hi, hj, ?_⟩
  show KOk _ N (k (decide (key i < key j))) Q
  by_cases h : key i < key j
  · rw [decide_eq_true h]; exact h1 h
  · rw [decide_eq_false h]; exact h2 h
theorem KOk.mono {Q Q' : α → Prop} (hq : ∀ a, Q a → Q' a) : ∀ (t : KasT α), KOk lt N t Q → KOk lt N t Q'
  | .ret a, h => hq a h
  | .ask i j k, h => ⟨h.1, h.2.1, KOk.mono hq (k (lt i j)) h.2.2⟩
theorem KOk.wp {cmp : Nat → Nat → (Bool → Shared → Prop) → Shared → Prop} {s : Shared} {Q : α → Prop} (hc : ∀ i j (C : Bool → Shared → Prop), i < N → j < N → C (lt i j) s → cmp i j C s) :
    ∀ (t : KasT α), KOk lt N t Q → t.kasWp cmp (fun a s' => s' = s ∧ Q a) s
  | .ret a, h => ⟨rfl, h⟩
  | .ask i j k, h => hc i j _ h.1 h.2.1 (KOk.wp hc (k (lt i j)) h.2.2)
end

noncomputable def at0 (p : Array Nat) (x : Nat) : Nat := p.getD x 0
theorem at0_eq (p : Array Nat) (x : Nat) : at0 p x = (p[x]?).getD 0 := by unfold at0; rw [Array.getD_eq_getD_getElem?]
theorem rev_at {p : Array Nat} {i j : Nat} (hj : j ≤ p.size) (x : Nat) : at0 (kas_rev p i j) x = if i ≤ x ∧ x < j then at0 p (i + j - 1 - x) else at0 p x := by
  rw [at0_eq, show kas_rev p i j = mirror p i j ((j - i) / 2) from rfl, getElem?_mirror_all hj]
  split <;> rw [at0_eq]
theorem bub_at {p : Array Nat} {k l : Nat} (hk : k < p.size) (hl : l ≤ k) (x : Nat) : at0 (bubble p k (k - l)) x = if x = l then at0 p k else if l < x ∧ x ≤ k then at0 p (x - 1) else at0 p x := by
  rw [at0_eq, getElem?_bubble hk _ (by lia), show k - (k - l) = l by lia]
  split
  · rw [at0_eq]
  · split <;> rw [at0_eq]

structure Bs (N : Nat) (p : Array Nat) (n : Nat) : Prop where
  size : p.size = N
  perm : p.toList.Perm (List.range N)
  low : ∀ x, x < n → at0 p x < n
  tail : ∀ x, n ≤ x → x < N → at0 p x = x
  le : n ≤ N

section
variable {N n : Nat} {p : Array Nat} {key : Nat → Int}

theorem Bs.lt (h : Bs N p n) {x : Nat} (hx : x < N) : at0 p x < N := by
  by_cases q : x < n
  · have := h.low x q; have := h.le; lia
  · rw [h.tail x (by lia) hx]; exact hx
theorem Bs.up (h : Bs N p n) (hn : n < N) : Bs N p (n + 1) where
  size := h.size
  perm := h.perm
  low := fun x hx => by
    by_cases q : x < n
    · have := h.low x q; lia
    · rw [show x = n by lia, h.tail n (Nat.le_refl _) hn]; lia
  tail := fun x h1 h2 => h.tail x (by lia) h2
  le := hn
theorem Bs.rev (h : Bs N p n) {i j : Nat} (hj : j ≤ n) : Bs N (kas_rev p i j) n where
  size := (kas_rev_size _ _).trans h.size
  perm := (Array.perm_iff_toList_perm.mp (mirror_perm p i j _)).trans h.perm
  low := fun x hx => by
    rw [rev_at (by rw [h.size]; have := h.le; lia)]
    split
    · exact h.low _ (by lia)
    · exact h.low x hx
  tail := fun x h1 h2 => by
    rw [rev_at (by rw [h.size]; have := h.le; lia), if_neg (by lia)]
    exact h.tail x h1 h2
  le := h.le
theorem Bs.bub {k l : Nat} (h : Bs N p k) (hk : k < N) (hl : l ≤ k) : Bs N (bubble p k (k - l)) (k + 1) where
  size := (bubble_size _ _ _).trans h.size
  perm := (Array.perm_iff_toList_perm.mp (bubble_perm p k _)).trans h.perm
  low := fun x hx => by
    have h' := (h.up hk).low
    rw [bub_at (by rw [h.size]; exact hk) hl]
    split
    · exact h' k (by lia)
    · split
      · exact h' _ (by lia)
      · exact h' x hx
  tail := fun x h1 h2 => by
    rw [bub_at (by rw [h.size]; exact hk) hl, if_neg (by lia), if_neg (by lia)]
    exact h.tail x (by lia) h2
  le := hk

noncomputable def Rk (key : Nat → Int) (i j : Nat) : Prop := key i < key j ∨ (key i = key j ∧ i < j)
theorem Rk.trans {a b c : Nat} (x : Rk key a b) (y : Rk key b c) : Rk key a c := by
  unfold Rk at *; lia
noncomputable def Up (key : Nat → Int) (p : Array Nat) (n : Nat) : Prop := ∀ i j, i < j → j < n → Rk key (at0 p i) (at0 p j)
noncomputable abbrev ltk (key : Nat → Int) : Nat → Nat → Bool := fun i j => decide (key i < key j)

theorem Up.le (u : Up key p n) {i j : Nat} (hij : i ≤ j) (hj : j < n) : key (at0 p i) ≤ key (at0 p j) := by
  rcases Nat.lt_or_ge i j with h | h
  · rcases u i j h hj with h | h <;> lia
  · rw [show i = j by lia]; exact Int.le_refl _
theorem Up.succ (u : Up key p n) (B : Bs N p n) (h1 : 1 ≤ n) (hn : n < N) (h : ¬ key (at0 p n) < key (at0 p (n - 1))) : Up key p (n + 1) := fun i j hij hj => by
  by_cases q : j < n
  · exact u i j hij q
  · obtain rfl : j = n := by lia
    have e := B.tail j (Nat.le_refl _) hn
    have l1 := u.le (i := i) (j := j - 1) (by lia) (by lia)
    have l2 := B.low i (by lia)
    unfold Rk
    lia

theorem asc_ok : ∀ (f n : Nat), Up key p n → Bs N p n → 1 ≤ n → n + f ≤ N → KOk (ltk key) N (kas_asc p f n) (fun m => n ≤ m ∧ m ≤ n + f ∧ Up key p m ∧ Bs N p m ∧ (m = n + f ∨ key (at0 p m) < key (at0 p (m - 1))))
  | 0, n, u, B, h1, h2 => ⟨Nat.le_refl _, Nat.le_refl _, u, B, .inl rfl⟩
  | f + 1, n, u, B, h1, h2 => by
    refine KOk.ask (i := at0 p n) (j := at0 p (n - 1)) (B.lt (by lia)) (B.lt (by lia)) (fun h => ?_) fun h => ?_
    · exact ⟨Nat.le_refl _, by lia, u, B, .inr h⟩
    · refine KOk.mono (fun m hm => ?_) _ (asc_ok f (n + 1) (u.succ B h1 (by lia) h) (B.up (by lia)) (by lia) (by lia))
      obtain ⟨a, b, c, d, e⟩ := hm
      exact ⟨by lia, by lia, c, d, e.imp (fun e => by lia) id⟩

/-- downwards, the last q + 1 alike and yet in the order of their places -/
structure Dn (key : Nat → Int) (p : Array Nat) (n q : Nat) : Prop where
  few : q + 1 ≤ n
  far : ∀ i j, i + q + 1 < n → n ≤ j + q + 1 → j < n → key (at0 p j) < key (at0 p i)
  old : ∀ i j, i < j → j + q + 1 < n → Rk key (at0 p j) (at0 p i)
  last : ∀ i j, n ≤ i + q + 1 → i < j → j < n → key (at0 p i) = key (at0 p j) ∧ at0 p i < at0 p j

noncomputable def Down (key : Nat → Int) (p : Array Nat) (n : Nat) : Prop := ∀ i j, i < j → j < n → Rk key (at0 p j) (at0 p i)

/-- the last ones turned -/
theorem Dn.turn {q : Nat} (d : Dn key p n q) (B : Bs N p n) : Down key (kas_rev p (n - (q + 1)) n) n ∧ key (at0 (kas_rev p (n - (q + 1)) n) (n - 1)) = key (at0 p (n - 1)) := by
  have hs : n ≤ p.size := by rw [B.size]; exact B.le
  have hq := d.few
  constructor
  · intro i j hij hj
    rw [rev_at hs, rev_at hs]
    by_cases a : n - (q + 1) ≤ i
    · rw [if_pos (by lia), if_pos (by lia)]
      have := d.last (n - (q + 1) + n - 1 - j) (n - (q + 1) + n - 1 - i) (by lia) (by lia) (by lia)
      exact .inr this
    · rw [if_neg (show ¬ (n - (q + 1) ≤ i ∧ i < n) by lia)]
      by_cases b : n - (q + 1) ≤ j
      · rw [if_pos (by lia)]
        exact .inl (d.far i _ (by lia) (by lia) (by lia))
      · rw [if_neg (by lia)]
        exact d.old i j hij (by lia)
  · rw [rev_at hs, if_pos (by lia)]
    by_cases e : n - (q + 1) + n - 1 - (n - 1) = n - 1
    · rw [e]
    · exact (d.last _ (n - 1) (by lia) (by lia) (by lia)).1
theorem Dn.zero (d : Dn key p n 0) : Down key p n := fun i j hij hj => by
  by_cases h : j + 1 < n
  · exact d.old i j hij h
  · exact .inl (d.far i j (by lia) (by lia) hj)
theorem Down.dn (d : Down key p n) (B : Bs N p n) (h1 : 1 ≤ n) (hn : n < N) (h : key (at0 p n) < key (at0 p (n - 1))) : Dn key p (n + 1) 0 where
  few := by lia
  far := fun i j h1 h2 h3 => by
    obtain rfl : j = n := by lia
    by_cases e : i = j - 1
    · subst e; exact h
    · rcases d i (j - 1) (by lia) (by lia) with q | q <;> lia
  old := fun i j hij hj => d i j hij (by lia)
  last := fun i j h1 h2 h3 => by lia

theorem desc_ok : ∀ (f : Nat) (p : Array Nat) (n q : Nat), Dn key p n q → Bs N p n → n + f ≤ N → KOk (ltk key) N (kas_desc f p n q) (fun r => Dn key r.1 r.2.1 r.2.2 ∧ Bs N r.1 r.2.1)
  | 0, p, n, q, d, B, h => ⟨d, B⟩
  | f + 1, p, n, q, d, B, h => by
    have hq := d.few
    have en := B.tail n (Nat.le_refl _) (by lia)
    refine KOk.ask (i := at0 p n) (j := at0 p (n - 1)) (B.lt (by lia)) (B.lt (by lia)) (fun c => ?_) fun c => ?_
    · show KOk _ _ (if q > 0 then kas_desc f (kas_rev p (n - (q + 1)) n) (n + 1) 0 else kas_desc f p (n + 1) 0) _
      by_cases hq0 : q > 0
      · rw [if_pos hq0]
        obtain ⟨t1, t2⟩ := d.turn B
        have B' := B.rev (i := n - (q + 1)) (j := n) (Nat.le_refl _)
        have en' := B'.tail n (Nat.le_refl _) (by lia)
        exact desc_ok f _ (n + 1) 0 (t1.dn B' (by lia) (by lia) (by rw [t2, en']; rw [en] at c; exact c)) (B'.up (by lia)) (by lia)
      · rw [if_neg hq0]
        obtain rfl : q = 0 := by lia
        exact desc_ok f p (n + 1) 0 (d.zero.dn B (by lia) (by lia) c) (B.up (by lia)) (by lia)
    · refine KOk.ask (i := at0 p (n - 1)) (j := at0 p n) (B.lt (by lia)) (B.lt (by lia)) (fun c2 => ?_) fun c2 => ?_
      · exact ⟨d, B⟩
      · refine desc_ok f p (n + 1) (q + 1) ⟨by lia, fun i j a1 a2 a3 => ?_, fun i j a1 a2 => d.old i j a1 (by lia), fun i j a1 a2 a3 => ?_⟩ (B.up (by lia)) (by lia)
        · by_cases e : j = n
          · subst e
            have := d.far i (j - 1) (by lia) (by lia) (by lia)
            lia
          · exact d.far i j (by lia) (by lia) (by lia)
        · by_cases e : j = n
          · subst e
            have lo := B.low i (by lia)
            by_cases e2 : i = j - 1
            · subst e2; exact ⟨by lia, by lia⟩
            · have := d.last i (j - 1) (by lia) (by lia) (by lia)
              exact ⟨by lia, by lia⟩
          · exact d.last i j (by lia) a2 (by lia)

theorem Down.up (d : Down key p n) (B : Bs N p n) : Up key (kas_rev p 0 n) n := fun i j hij hj => by
  have hs : n ≤ p.size := by rw [B.size]; exact B.le
  rw [rev_at hs, rev_at hs, if_pos (by lia), if_pos (by lia)]
  exact d _ _ (by lia) (by lia)

noncomputable abbrev Run (key : Nat → Int) (N : Nat) (r : Nat × Array Nat) : Prop := 1 ≤ r.1 ∧ r.1 ≤ N ∧ Up key r.2 r.1 ∧ Bs N r.2 r.1

theorem tail3_ok (d : Down key p n) (B : Bs N p n) (h1 : 1 ≤ n) : KOk (ltk key) N (kas_tail3 n N p) (Run key N) := by
  refine KOk.bind _ (KOk.mono (fun m hm => ?_) _ (asc_ok (N - n) n (d.up B) (B.rev (Nat.le_refl _)) h1 (by have := B.le; lia)))
  obtain ⟨a, b, c, e, _⟩ := hm
  have := B.le
  exact ⟨by show 1 ≤ m; lia, by show m ≤ N; lia, c, e⟩

theorem descPart_ok (d : Down key p n) (B : Bs N p n) (h1 : 1 ≤ n) (hn : n < N) (h : key (at0 p n) < key (at0 p (n - 1))) : KOk (ltk key) N (kas_descPart n N p) (Run key N) := by
  refine KOk.bind _ (KOk.mono (fun r hr => ?_) _ (desc_ok (N - (n + 1)) p (n + 1) 0 (d.dn B h1 hn h) (B.up hn) (by lia)))
  obtain ⟨r1, r2⟩ := hr
  have hq := r1.few
  by_cases q0 : r.2.2 > 0
  · rw [if_pos q0]
    exact tail3_ok (r1.turn r2).1 (r2.rev (Nat.le_refl _)) (by lia)
  · rw [if_neg q0]
    have e : r.2.2 = 0 := by lia
    rw [e] at r1
    exact tail3_ok r1.zero r2 (by lia)

theorem count_ok (B : Bs N p 0) (h1 : 1 ≤ N) : KOk (ltk key) N (kas_count N p) (Run key N) := by
  refine KOk.bind _ (KOk.mono (fun n hn => ?_) _ (asc_ok (N - 1) 1 (fun i j a b => by lia) (B.up (by lia)) (Nat.le_refl _) (by lia)))
  obtain ⟨a, b, c, d, e⟩ := hn
  by_cases q : (n == N) = true
  · rw [if_pos q]
    exact ⟨a, by show n ≤ N; lia, c, d⟩
  · rw [if_neg q]
    have hne : n ≠ N := fun z => q (by rw [z]; exact beq_self_eq_true _)
    have hlt : key (at0 p n) < key (at0 p (n - 1)) := e.resolve_left (by lia)
    have hid : ∀ x, x < N → at0 p x = x := fun x hx => B.tail x (Nat.zero_le _) hx
    by_cases n1 : n > 1
    · rw [if_pos n1]
      refine KOk.ask (i := at0 p 0) (j := at0 p (n - 1)) (d.lt (by lia)) (d.lt (by lia)) (fun c1 => ?_) fun c1 => ?_
      · exact ⟨a, by show n ≤ N; lia, c, d⟩
      · have hs : n ≤ p.size := by rw [B.size]; lia
        have all : ∀ i, i < n → key (at0 p i) = key (at0 p (n - 1)) := fun i hi => by
          have := c.le (i := 0) (j := i) (by lia) hi
          have := c.le (i := i) (j := n - 1) (by lia) (by lia)
          lia
        refine descPart_ok (fun i j hij hj => ?_) (d.rev (Nat.le_refl _)) a (by lia) ?_
        · rw [rev_at hs, rev_at hs, if_pos (by lia), if_pos (by lia)]
          refine .inr ⟨(all _ (by lia)).trans (all _ (by lia)).symm, ?_⟩
          rw [hid _ (by lia), hid _ (by lia)]
          lia
        · have e1 : at0 (kas_rev p 0 n) n = at0 p n := by rw [rev_at hs, if_neg (by lia)]
          have e2 : at0 (kas_rev p 0 n) (n - 1) = at0 p (0 + n - 1 - (n - 1)) := by rw [rev_at hs, if_pos (by lia)]
          rw [e1, e2, all (0 + n - 1 - (n - 1)) (by lia)]
          exact hlt
    · rw [if_neg n1]
      obtain rfl : n = 1 := by lia
      exact descPart_ok (fun i j hij hj => by lia) d (Nat.le_refl _) (by lia) hlt

theorem place_ok {k : Nat} (u : Up key p k) (B : Bs N p k) (hk : k < N) : ∀ (f l r : Nat), l ≤ r → r ≤ k → r - l ≤ f → (∀ i, i < l → key (at0 p i) ≤ key (at0 p k)) → (∀ i, r ≤ i → i < k → key (at0 p k) < key (at0 p i)) →
    KOk (ltk key) N (kas_place p k f l r) (fun m => m ≤ k ∧ (∀ i, i < m → key (at0 p i) ≤ key (at0 p k)) ∧ ∀ i, m ≤ i → i < k → key (at0 p k) < key (at0 p i))
  | 0, l, r, h1, h2, h3, h4, h5 => by
    obtain rfl : l = r := by lia
    exact ⟨h2, h4, h5⟩
  | f + 1, l, r, h1, h2, h3, h4, h5 => by
    unfold kas_place
    by_cases q : l ≥ r
    · rw [if_pos q]
      obtain rfl : l = r := by lia
      exact ⟨h2, h4, h5⟩
    · rw [if_neg q]
      refine KOk.ask (i := at0 p k) (j := at0 p ((l + r) / 2)) (B.lt hk) (B.lt (by lia)) (fun c => ?_) fun c => ?_
      · refine place_ok u B hk f l ((l + r) / 2) (by lia) (by lia) (by lia) h4 fun i a b => ?_
        have := u.le a b
        lia
      · refine place_ok u B hk f ((l + r) / 2 + 1) r (by lia) (by lia) (by lia) (fun i a => ?_) h5
        have := u.le (i := i) (j := (l + r) / 2) (by lia) (by lia)
        lia

theorem bin_ok : ∀ (f : Nat) (p : Array Nat) (k : Nat), Up key p k → Bs N p k → k + f = N → KOk (ltk key) N (kas_bin f p k) (fun p' => Up key p' N ∧ Bs N p' N)
  | 0, p, k, u, B, h => by
    obtain rfl : k = N := by lia
    exact ⟨u, B⟩
  | f + 1, p, k, u, B, h => by
    refine KOk.bind _ (KOk.mono (fun l hl => ?_) _ (place_ok u B (by lia) k 0 k (by lia) (by lia) (by lia) (fun i a => by lia) (fun i a b => by lia)))
    obtain ⟨l1, l2, l3⟩ := hl
    refine bin_ok f _ (k + 1) (fun i j hij hj => ?_) (B.bub (by lia) l1) (by lia)
    have hs : k < p.size := by rw [B.size]; lia
    have ek := B.tail k (Nat.le_refl _) (by lia)
    have put : ∀ i, i < l → Rk key (at0 p i) (at0 p k) := fun i hi => by
      have := l2 i hi
      have := B.low i (by lia)
      unfold Rk
      lia
    rw [bub_at hs l1, bub_at hs l1]
    by_cases a : j = l
    · subst a
      rw [if_neg (by lia), if_pos rfl, if_neg (by lia)]
      exact put i hij
    · rw [if_neg a]
      by_cases b : i = l
      · subst b
        rw [if_pos rfl, if_pos (by lia)]
        exact .inl (l3 _ (by lia) (by lia))
      · rw [if_neg b]
        by_cases c : l < j ∧ j ≤ k
        · rw [if_pos c]
          by_cases e : l < i ∧ i ≤ k
          · rw [if_pos e]; exact u _ _ (by lia) (by lia)
          · rw [if_neg e]
            exact u _ _ (by lia) (by lia)
        · rw [if_neg c, if_neg (by lia)]
          exact u _ _ hij (by lia)

theorem sort_ok (h1 : 1 ≤ N) : KOk (ltk key) N (kas_sort N) (fun p => Up key p N ∧ Bs N p N) := by
  have B : Bs N (List.toArray (List.range N)) 0 := ⟨by simp, by simp, fun x hx => by lia, fun x _ hx => by simp [at0, Array.getD, hx], Nat.zero_le _⟩
  refine KOk.bind _ (KOk.mono (fun r hr => ?_) _ (count_ok B h1))
  obtain ⟨a, b, c, d⟩ := hr
  by_cases q : r.1 < N
  · rw [if_pos q, show max r.1 1 = r.1 by lia]
    exact bin_ok (N - r.1) _ _ c d (by lia)
  · rw [if_neg q]
    have e : r.1 = N := by lia
    rw [e] at c d
    exact ⟨c, d⟩
end

theorem perm_eq_of {α : Type} {R : α → α → Prop} (as : ∀ a b, R a b → R b a → a = b) : ∀ {l m : List α}, l.Perm m → l.Pairwise R → m.Pairwise R → l = m
  | [], m, h, _, _ => (List.Perm.nil_eq h)
  | a :: l, [], h, _, _ => by have := h.length_eq; simp at this
  | a :: l, b :: m, h, h1, h2 => by
    rw [List.pairwise_cons] at h1 h2
    have e : a = b := by
      have ha : a ∈ b :: m := h.mem_iff.mp (List.mem_cons_self ..)
      have hb : b ∈ a :: l := h.mem_iff.mpr (List.mem_cons_self ..)
      rcases List.mem_cons.mp ha with e | ha
      · exact e
      rcases List.mem_cons.mp hb with e | hb
      · exact e.symm
      exact as a b (h1.1 b hb) (h2.1 a ha)
    subst e
    rw [perm_eq_of as (List.Perm.cons_inv h) h1.2 h2.2]

theorem sorted_out2 {key : Nat → Int} {N : Nat} {p : Array Nat} (u : Up key p N) (B : Bs N p N) {o : List Nat} (ho : o.Perm (List.range N)) (hs : o.Pairwise (Rk key)) : p.toList = o := by
  refine perm_eq_of (R := Rk key) (fun a b h1 h2 => by unfold Rk at h1 h2; lia) (B.perm.trans ho.symm) ?_ hs
  rw [List.pairwise_iff_getElem]
  intro i j hi hj hij
  have hj' : j < N := by rw [← B.size]; simpa using hj
  have hi' : i < N := by lia
  have := u i j hij hj'
  simpa [at0, Array.getD, B.size, hi', hj'] using this
end Mine

open PySem PySem.W PyProof.Rows PySem.Spec PySem.Calls
set_option Elab.async false
set_option maxRecDepth 100000
set_option linter.unusedVariables false
namespace Mine
section
variable {C : Cx} {k : Nat} {A : Around} {env : Env} {clos : List (Str × Addr)} {ρ ρf : List (Str × D)} {s : Shared} {μ : List Addr} {X : SA C} {E : Value → Shared → Prop} {kvs : List (Int × Int)}

theorem intsAre_of : ∀ (vs : List Value), (∀ v ∈ vs, ∃ n t, v = Value.int n t) → IntsAre vs (vs.map numOf)
  | [], _ => .nil
  | v :: vs, h => by
    obtain ⟨n, t, rfl⟩ := h v (List.mem_cons_self ..)
    exact .cons n t (intsAre_of vs fun w hw => h w (List.mem_cons_of_mem _ hw))

/-- sorted(d) of a dict with ints as keys -/
theorem f_sortedD {o : List Int} (hz : kvs.length < 64) (hp : o.Perm (kvs.map (·.1))) (hs : o.Pairwise (· ≤ ·)) : Fn C (k + 1) (.builtin "sorted") [.dict kvs] (.list (o.map D.int)) := by
  rintro vs μ A s Q E G ⟨⟩ rm ret
  rename_i v vs h r
  cases r
  cases h with
  | dict hd hn hi =>
  rename_i a l
  obtain ⟨ep, hd1⟩ := hd.dictAt
  have hd' := hd1.at' (h' := s.heap) fun o e => hid_ext μ s.heap _ o e
  refine call_function_entry kind_sorted plain_sorted entry_sorted (args_sorted1 _) ?_
  unfold Builtin.«sorted»
  refine wpAny_bind (m := checkCount "sorted" 1 1 _) (wpAny_pure ?_)
  refine wpAny_bind (kdu_collect (A := A.in1) (kdl_dict (knd := intKind C.prog C.w) (kvs := l) (ep := ep) hn) rm.handled hd' (by rw [hi.length, sizeLine_eq]; lia) fun h' tk acc hk hacc => ?_)
  have hl : acc.toList.length = l.length := by rw [Array.length_toList]; exact hacc.1
  have hlk : l.length = kvs.length := hi.length
  have hall : ∀ j v, acc.toList[j]? = some v → ∃ x c t, kvs[j]? = some (x, c) ∧ v = Value.int x t := fun j v e => by
    obtain ⟨x, y, e1, e2⟩ := hacc.2 j v (by rw [← Array.getElem?_toList]; exact e)
    obtain ⟨c, t, _, e3⟩ := hi.at e1
    obtain ⟨t', rfl⟩ := isInt_val e2
    exact ⟨x, c, t', e3, rfl⟩
  have hI := intsAre_of acc.toList fun v hv => by
    obtain ⟨j, hj, rfl⟩ := List.getElem_of_mem hv
    obtain ⟨x, c, t, _, e⟩ := hall j _ (List.getElem?_eq_getElem hj)
    exact ⟨x, t, e⟩
  have hnum : acc.toList.map numOf = kvs.map (·.1) := by
    apply List.ext_getElem?
    intro j
    rw [List.getElem?_map, List.getElem?_map]
    rcases Nat.lt_or_ge j acc.toList.length with hj | hj
    · obtain ⟨x, c, t, e1, e2⟩ := hall j _ (List.getElem?_eq_getElem hj)
      rw [List.getElem?_eq_getElem hj, e1, e2]
      rfl
    · rw [List.getElem?_eq_none hj, List.getElem?_eq_none (by lia)]
      rfl
  refine wpAny_bind (wpAny_newList ?_ (by rw [hl, sizeLine_eq]; lia))
  have hoL : (h'.push { cls := .type "list", data := .seq acc.toList.toArray }).get? h'.objs.size = some (seqObj "list" acc.toList.toArray 0) := Heap.get?_push_size _ rfl
  have hlen64 : acc.toList.length < 64 := by lia
  refine wpAny_bind (wpAny_holding (wpAny_call_entry slot_list_sort ⟨_, hoL, rfl⟩ entry_list_sort (list_sort_tree hoL hI hlen64 fun out ns' a1 a2 a3 => ⟨_, rfl, ?_⟩) (args_list_sort _)))
  refine wpAny_pure ⟨_, rfl, ?_⟩
  obtain ⟨c, hc⟩ := sortedHeap_at (vs := acc.toList) (out := out) hoL
  have ext : Ext s.heap (sortedHeap (h'.push { cls := .type "list", data := .seq acc.toList.toArray }) h'.objs.size acc.toList out) := fun b ob e => by
    have e1 := hk b ob e
    have hlt := Heap.lt_size e1
    exact (sortedHeap_old (Nat.ne_of_lt hlt) (by rw [Heap.size_push]; exact Nat.lt_succ_of_lt hlt)).trans (Heap.get?_push_of_some _ e1)
  have hnew : h'.objs.size ∉ μ := fun hm => by
    obtain ⟨ob, e⟩ := G.low _ hm
    exact Nat.lt_irrefl _ (Heap.lt_size (hk _ _ e))
  have hout : ns' = o := perm_eq_of (R := fun a b : Int => a ≤ b) (fun a b h1 h2 => Int.le_antisymm h1 h2) (a2.trans ((List.Perm.of_eq hnum).trans hp.symm)) a3 hs
  subst hout
  exact ret _ _ tk (Ext.kh ext) (G.keep ext) (.list ⟨c, hid_get hc hnew⟩ (ints_repL a1))

theorem collect_rng {r : Addr} {a b c : Int} {t u x : Tok} {n : Nat} {R : List Value → Shared → Prop} (hh : A.handled = none) (hr : IsRange s.heap r a b c t u x) (hsm : Builtin.Range.small a b c = true) (hn : Builtin.Range.rangeSize a b c = (n : Int)) (hz : n ≤ 2 ^ 20)
    (h : ∀ (h' : Heap) (tk : Nat) (acc : Array Value), Ext s.heap h' → ItemsOf (fun i v => ∃ t, v = .int (a + i * c) t) acc n → R acc.toList { s with heap := h', toks := tk }) : wpAny (model C.prog C.w) A (collect (.ref r)) R E s := by
  unfold collect
  refine wpAny_bind (wpAny_runValue (codeAny_builtin entry_proto_collect' ?_))
  rw [Around.under_plainId PySem.F.plain_proto_collect _]
  show wpAny _ A.in1 (newList [] >>= fun l => again (.builtin "list.__iadd__" ⟨[l, .ref r], []⟩)) _ _ s
  refine wpAny_bind (wpAny_newObj_type ?_)
  refine wpAny_pure ⟨plainId_quiet PySem.F.plain_list_iadd _, codeAny_builtin entry_list_iadd' ?_⟩
  rw [Around.under_plainId PySem.F.plain_list_iadd _]
  have key := wpAny_extend_range (A := A) (prog := C.prog) (w := C.w) (s := { s with heap := s.heap.push { cls := .type "list", data := .seq ([] : List Value).toArray } })
    (R := fun (q : Result) (s' : Shared) => ∃ (h' : Heap) (tk : Nat) (acc' : Array Value) (c' : Nat), q = .ok (.ret (.ref s.heap.objs.size)) ∧ s' = { s with heap := h', toks := tk } ∧
      Ext s.heap h' ∧ h'.get? s.heap.objs.size = some { cls := .type "list", dict := none, data := .seq acc' c', slots := #[] } ∧ ItemsOf (fun i v => ∃ t, v = .int (a + i * c) t) acc' n)
    hh (Heap.get?_push_of_some _ hr) hsm hn (Nat.le_trans hz (by decide)) s.heap.objs.size (.ref s.heap.objs.size) 0 (Heap.get?_push_size _ rfl)
    (fun h' tk acc' c' hk hS' hacc => ⟨h', tk, acc', c', rfl, rfl, fun b o e => hk b o (Nat.ne_of_lt (Heap.lt_size e)) (Heap.get?_push_of_some _ e), hS', hacc⟩)
  refine wpAny_mono key (fun fin s' y => ?_) fun e s' y => ?_
  · cases fin with
    | done f =>
      obtain ⟨h', tk, acc', c', e, rfl, hk, hS', hacc⟩ := y
      cases e
      exact wpAny_bind (wpAny_load hS' (wpAny_pure (h h' tk acc' hk hacc)))
    | again c₁ =>
      refine ⟨y.1, codeAny_mono y.2 fun q s₂ z => ?_⟩
      obtain ⟨h', tk, acc', c', rfl, rfl, hk, hS', hacc⟩ := z
      exact wpAny_bind (wpAny_load hS' (wpAny_pure (h h' tk acc' hk hacc)))
  · obtain ⟨_, _, _, _, e', _⟩ := y
    cases e'
end
end Mine

open PySem PySem.W PyProof.Rows PySem.Spec PySem.Calls
set_option Elab.async false
set_option maxRecDepth 100000
set_option linter.unusedVariables false
namespace Mine
section
variable {C : Cx} {k : Nat} {A : Around} {env : Env} {clos : List (Str × Addr)} {ρ ρf : List (Str × D)} {s : Shared} {μ : List Addr} {X : SA C} {E : Value → Shared → Prop}
  {name qual : Str} {params : Arguments} {body : FuncBody} {scope : Scope} {n : Nat} {g : Nat → Int} {o : List Nat}

theorem ClAt.grow {h h' : Heap} {μ' : List Addr} (gx : Ext (hideAll h μ) (hideAll h' μ')) (kh : KH h h') (c : ClAt C clos ρf μ h) : ClAt C clos ρf μ' h' := fun x d e => by
  obtain ⟨c, v, h1, h2, ⟨o, h3, h4⟩, h5⟩ := c x d e
  exact ⟨c, v, h1, h2, ⟨o, kh c o h2 h3, h4⟩, h5.mono gx⟩

theorem ksk_end_ok {a kS : Addr} {e e1 : Nat} {keys : Array Value} {vs : List Value} {P : PySem.Fin → Shared → Prop} (hk : s.heap.get? kS = some (seqObj "list" keys e)) (ha : s.heap.get? a = some (seqObj "list" #[] e1)) (hka : kS ≠ a)
    (hI : IntsAre keys.toList ((List.range n).map g)) (hv : vs.length = n) (h2 : 2 ≤ n) (h64 : n < 64) (ho : o.Perm (List.range n)) (hs : o.Pairwise (Rk g))
    (h : ∀ h' c, h'.get? a = some (seqObj "list" (o.map fun i => vs.getD i .none).toArray c) → (∀ b ob, b ≠ kS → b ≠ a → s.heap.get? b = some ob → h'.get? b = some ob) → P (.done (.ret .none)) { s with heap := h' }) :
    wpAny (model C.prog C.w) A (ksk_end a false vs.toArray e1 (.ref kS) keys) P E s := by
  have hsz : keys.size = n := by
    have h1 := hI.length
    rw [Array.length_toList, List.length_map, List.length_range] at h1
    exact h1
  have hzs : (keys.zip vs.toArray).size = n := by rw [Array.size_zip, hsz, List.size_toArray, hv, Nat.min_self]
  have hitem : ∀ i, i < n → ∃ t, kas_item (keys.zip vs.toArray) i = (.int (g i) t, vs.getD i .none) := fun i hi => by
    have hik : i < keys.size := by lia
    obtain ⟨t, ht⟩ := hI.get i (g i) (by rw [List.getElem?_map, List.getElem?_range hi]; rfl)
    refine ⟨t, ?_⟩
    rw [Array.getElem?_toList, Array.getElem?_eq_getElem hik] at ht
    have e1 : keys[i] = .int (g i) t := Option.some.inj ht
    have hiz : i < (keys.zip vs.toArray).size := by lia
    have hiv : i < vs.length := by lia
    unfold kas_item
    rw [show (keys.zip vs.toArray).getD i (Value.none, Value.none) = (keys.zip vs.toArray)[i] by rw [Array.getD_eq_getD_getElem?, Array.getElem?_eq_getElem hiz]; rfl]
    simp [e1, hiv]
  unfold ksk_end
  dsimp only
  simp only [Bool.false_eq_true, if_false]
  have h2' : ¬ vs.toArray.size < 2 := by rw [List.size_toArray]; lia
  rw [if_neg h2', if_neg h2', ksk_kind hI (by lia)]
  refine wpAny_bind (wpAny_pure ?_)
  have est : SortSt.mk' oneType' (keys.zip vs.toArray) #[] 7 none = kas_st oneType' (keys.zip vs.toArray) (List.toArray (List.range n)) := by
    show _ = SortSt.mk' oneType' ((List.toArray (List.range n)).map (kas_item (keys.zip vs.toArray))) #[] 7 none
    rw [← hzs, kas_range]
  rw [est]
  have run := kas_runs (prog := C.prog) (w := C.w) (A := A) (E := E) (κ := oneType') (it := keys.zip vs.toArray) (n := n) (s := s) (G := fun p s' => s' = s ∧ Up g p n ∧ Bs n p n)
    (Q := fun _ st' s' => s' = s ∧ arrOf st' = (List.toArray o).map (kas_item (keys.zip vs.toArray)) ∧ failedOf st' = none) h2 h64
    (fun p' st' s' a1 a2 a3 a4 => ⟨a4.1, by
      have := sorted_out2 a4.2.1 a4.2.2 ho hs
      rw [a2, ← this, Array.toArray_toList], a3⟩) ((sort_ok (key := g) (N := n) (by lia)).wp (fun i j Cc hi hj hc => by
      obtain ⟨t, e1⟩ := hitem i hi
      obtain ⟨u, e2⟩ := hitem j hj
      unfold kas_cmp
      rw [e1, e2, keyLt'_oneType]
      exact oneLt_int hc) _)
  refine wpAny_bind (wpAny_mono run ?_ fun _ _ z => z)
  rintro ⟨⟨⟩, st'⟩ s' ⟨rfl, har, hf⟩
  unfold ksk_tail
  dsimp only
  have s1 := Heap.SameBut.update s'.heap kS (Obj.mapSeq fun _ => (#[] : Array Value))
  have na1 : (s'.heap.update kS (Obj.mapSeq fun _ => (#[] : Array Value))).get? a = some (seqObj "list" #[] e1) := (s1.2 a hka.symm).trans ha
  have hout : (arrOf st').map (·.2) = (o.map fun i => vs.getD i .none).toArray := by
    rw [har, Array.map_map]
    apply Array.toList_inj.mp
    rw [Array.toList_map]
    show o.map _ = o.map _
    refine List.map_congr_left fun i hi => ?_
    obtain ⟨t, e⟩ := hitem i (List.mem_range.mp (ho.mem_iff.mp hi))
    simp only [Function.comp, e]
  have hol : o.length = n := by rw [ho.length_eq, List.length_range]
  rw [hout]
  have s2 := Heap.SameBut.update (s'.heap.update kS (Obj.mapSeq fun _ => (#[] : Array Value))) a (Obj.mapSeq fun _ => (o.map fun i => vs.getD i .none).toArray)
  refine wpAny_bind (listUpdate_at hk rfl ?_ (by rw [hsz, sizeLine_eq]; lia) (Nat.zero_le _))
  refine wpAny_bind (wpAny_letGo ?_)
  refine wpAny_bind (seqEpoch_at na1 rfl ?_)
  refine wpAny_bind (listUpdate_at na1 rfl ?_ (Nat.zero_le _) (by show (o.map fun i => vs.getD i .none).toArray.size ≤ sizeLine + 1; rw [List.size_toArray, List.length_map, hol, sizeLine_eq]; lia))
  rw [hf]
  simp only [bne_self_eq_false, Bool.false_eq_true, if_false]
  obtain ⟨c2, hc2⟩ : ∃ c2, ((s'.heap.update kS (Obj.mapSeq fun _ => (#[] : Array Value))).update a (Obj.mapSeq fun _ => (o.map fun i => vs.getD i .none).toArray)).get? a = some (seqObj "list" (o.map fun i => vs.getD i .none).toArray c2) :=
    ⟨_, get?_update_seq na1 fun _ => (o.map fun i => vs.getD i .none).toArray⟩
  exact wpAny_pure (h _ c2 hc2 fun b ob hb1 hb2 e => (s2.2 b hb2).trans ((s1.2 b hb1).trans e))

/-- sorted(range(n), key=f) -/
theorem ok_sortedKey (h2 : 2 ≤ n) (h64 : n < 64) (ho : o.Perm (List.range n)) (hs : o.Pairwise (Rk g)) (hkey : ∀ i, i < n → FnC C k (.fn name qual params body scope clos) clos ρf [.int (i : Int)] (.int (g i))) (v kv : Value) :
    Ok C (k + 2) (fun μ h => Dt C (.rng 0 n 1) v μ h ∧ Dt C (.fn name qual params body scope clos) kv μ h ∧ ClAt C clos ρf μ h) (call (.builtin "sorted") [v] [(Str.ofString "key", kv)]) (Dt C (.list (o.map fun i : Nat => D.int (i : Int)))) := by
  rintro μ A s Q E G ⟨hv, hf, hc⟩ rm ret
  cases hv
  rename_i r t u x hr
  have hf0 := hf
  cases hf
  rename_i q _ _ _ _ _ _
  refine call_function_entry_kw kind_sorted plain_sorted entry_sorted (ksk_s1 _ _) ?_
  unfold Builtin.«sorted»
  refine wpAny_bind (m := checkCount "sorted" 1 1 _) (wpAny_pure ?_)
  have rs := rng_small (n := n) (by lia)
  refine wpAny_bind (collect_rng rm.handled (hid_ext μ s.heap _ _ hr) rs.1 rs.2 (by lia) fun h₁ tk₁ acc x₁ hacc => ?_)
  have hal : acc.toList.length = n := by rw [Array.length_toList]; exact hacc.1
  have hav : ∀ i, i < n → ∃ t, acc.toList.getD i .none = .int (i : Int) t := fun i hi => by
    have hi' : i < acc.toList.length := by lia
    obtain ⟨t, e⟩ := hacc.2 i acc.toList[i] (by rw [← Array.getElem?_toList, List.getElem?_eq_getElem hi'])
    exact ⟨t, by rw [List.getD_eq_getElem?_getD, List.getElem?_eq_getElem hi', Option.getD_some, e]; simp⟩
  refine wpAny_bind (wpAny_newList ?_ (by rw [hal, sizeLine_eq]; lia))
  obtain ⟨a, ea⟩ : ∃ a, a = h₁.objs.size := ⟨_, rfl⟩
  show wpAny _ _ _ _ _ { s with heap := h₁.push (seqObj "list" acc.toList.toArray 0), toks := tk₁ }
  rw [← ea]
  have hoL : (h₁.push (seqObj "list" acc.toList.toArray 0)).get? a = some (seqObj "list" acc.toList.toArray 0) := by rw [ea]; exact Heap.get?_push_size _ rfl
  refine wpAny_bind (wpAny_holding (wpAny_call_entry_kw slot_list_sort ⟨_, hoL, rfl⟩ entry_list_sort ?body (ksk_l1 _ _)))
  case body =>
    show wpAny (model C.prog C.w) A.in1.in1 (Builtin.«list.sort» ⟨[.ref a], [(Str.ofString "key", .ref q)]⟩) _ _ _
    rw [ksk_t1]
    unfold ksk_tree
    obtain ⟨e1, ho1⟩ : ∃ e1, ((h₁.push (seqObj "list" acc.toList.toArray 0)).update a (Obj.mapSeq fun _ => (#[] : Array Value))).get? a = some (seqObj "list" #[] e1) := ⟨_, get?_update_seq hoL fun _ => #[]⟩
    refine wpAny_bind (listItems_at hoL rfl ?_)
    refine wpAny_bind (listUpdate_at hoL rfl ?_ (by rw [List.size_toArray, hal, sizeLine_eq]; lia) (Nat.zero_le _))
    refine wpAny_bind (seqEpoch_at ho1 rfl ?_)
    refine wpAny_bind (wpAny_newTuple ?_ (by show acc.toList.length ≤ _; rw [hal, sizeLine_eq]; lia))
    refine wpAny_bind (wpAny_newList ?_ (Nat.zero_le _))
    refine wpAny_holding ?_
    obtain ⟨kS, ek⟩ : ∃ kS, kS = (((h₁.push (seqObj "list" acc.toList.toArray 0)).update a (Obj.mapSeq fun _ => (#[] : Array Value))).push (seqObj "tuple" acc.toList.toArray 0)).objs.size := ⟨_, rfl⟩
    obtain ⟨h₂, eh⟩ : ∃ h₂, h₂ = (((h₁.push (seqObj "list" acc.toList.toArray 0)).update a (Obj.mapSeq fun _ => (#[] : Array Value))).push (seqObj "tuple" acc.toList.toArray 0)).push (seqObj "list" #[] 0) := ⟨_, rfl⟩
    show wpAny (model C.prog C.w) A.in1.in1 (ksk_rest a (.ref q) false acc.toList.toArray e1 (.ref (((h₁.push (seqObj "list" acc.toList.toArray 0)).update a (Obj.mapSeq fun _ => (#[] : Array Value))).push (seqObj "tuple" acc.toList.toArray 0)).objs.size)) _ _
      { s with heap := (((h₁.push (seqObj "list" acc.toList.toArray 0)).update a (Obj.mapSeq fun _ => (#[] : Array Value))).push (seqObj "tuple" acc.toList.toArray 0)).push (seqObj "list" #[] 0), toks := tk₁ }
    rw [← ek, ← eh]
    have hkS : h₂.get? kS = some (seqObj "list" #[] 0) := by rw [eh, ek]; exact Heap.get?_push_size _ rfl
    have haS : h₂.get? a = some (seqObj "list" #[] e1) := by rw [eh]; exact Heap.get?_push_of_some _ (Heap.get?_push_of_some _ ho1)
    have ekS : kS = h₁.objs.size + 2 := by rw [ek, size_push', Heap.size_update, size_push']
    have hka : kS ≠ a := by lia
    have x₂ : Ext s.heap h₂ := fun b ob e => by
      have e' := x₁ b ob e
      have hlt := Heap.lt_size e'
      rw [eh]
      exact Heap.get?_push_of_some _ (Heap.get?_push_of_some _ ((Heap.get?_update_ne _ _ _ _ (by rw [ea]; exact Nat.ne_of_lt hlt)).trans (Heap.get?_push_of_some _ e')))
    have fr : ∀ b ob, s.heap.get? b = some ob → b ≠ kS ∧ b ≠ a := fun b ob e => by
      have hlt := Heap.lt_size (x₁ b ob e)
      rw [ekS, ea]
      exact ⟨Nat.ne_of_lt (Nat.lt_of_lt_of_le hlt (Nat.le_add_right _ _)), Nat.ne_of_lt hlt⟩
    have nt : kS ∉ TB ∧ a ∉ TB := by
      constructor
      · exact fun m => by obtain ⟨ob, e⟩ := G.low _ (G.sub _ m); exact (fr _ _ e).1 rfl
      · exact fun m => by obtain ⟨ob, e⟩ := G.low _ (G.sub _ m); exact (fr _ _ e).2 rfl
    have grow : ∀ h', KH s.heap h' → Ext (hideAll s.heap μ) (hideAll h' (kS :: a :: μ)) := fun h' kh => hid_mono fun b ob nb e => ⟨kh b ob (fun m => nb (G.sub _ m)) e, fun m => by
      have := fr b ob e
      rcases List.mem_cons.mp m with z | m
      · exact this.1 z
      rcases List.mem_cons.mp m with z | m
      · exact this.2 z
      exact nb m⟩
    have subT : ∀ P ∈ TB, P ∈ kS :: a :: μ := fun P hP => List.mem_cons_of_mem _ (List.mem_cons_of_mem _ (G.sub P hP))
    have G₂ : Good C (kS :: a :: μ) h₂ := G.turn (grow h₂ x₂.kh) subT (fun b hb => by
      rcases List.mem_cons.mp hb with rfl | hb
      · exact ⟨_, hkS⟩
      rcases List.mem_cons.mp hb with rfl | hb
      · exact ⟨_, haS⟩
      obtain ⟨ob, e⟩ := G.low b hb
      exact ⟨ob, x₂ b ob e⟩) fun P _ ob e => x₂ P ob e
    unfold ksk_rest
    refine wpAny_bind (wpAny_rule ?_)
    rw [List.forIn_toArray]
    refine wpAny_bind (ksk_fold (fun i s' => ∃ h' tk kA e, s' = { s with heap := h', toks := tk } ∧ KH s.heap h' ∧ Good C (kS :: a :: μ) h' ∧ h'.get? kS = some (seqObj "list" kA e) ∧ h'.get? a = some (seqObj "list" #[] e1) ∧ IntsAre kA.toList ((List.range i).map g)) acc.toList 0 _
      ⟨h₂, tk₁, #[], 0, rfl, x₂.kh, G₂, hkS, haS, .nil⟩ ?step ?done)
    case step =>
      rintro j y s' hy ⟨h', tk, kA, e, rfl, kh, G', hk', ha', hI⟩
      simp only [Nat.zero_add] at hI ⊢
      have hj : j < n := by have := (List.getElem?_eq_some_iff.mp hy).1; lia
      obtain ⟨ty, ety⟩ := hav j hj
      have ey : y = .int (j : Int) ty := by rw [← ety, List.getD_eq_getElem?_getD, hy]; rfl
      have hz : kA.size = j := by
        have h1 := hI.length
        rw [Array.length_toList, List.length_map, List.length_range] at h1
        exact h1
      refine wpAny_bind (wpAny_attempt (hkey j hj (.ref q) [y] _ A.in1.in1 { s with heap := h', toks := tk } _ _ G' ⟨hf0.mono (grow h' kh), hc.grow (grow h' kh) kh, .cons (by rw [ey]; exact .int _ _) .nil⟩ rm.in1.in1 fun v₃ h₃ tk₃ k₃ G₃ r₃ => ?_))
      cases r₃
      rename_i t₃
      have hk₃ := k₃ _ _ nt.1 hk'
      have ha₃ := k₃ _ _ nt.2 ha'
      have s1 := Heap.SameBut.update h₃ kS (Obj.mapSeq (·.push (.int (g j) t₃)))
      obtain ⟨c2, hc2⟩ : ∃ c2, (h₃.update kS (Obj.mapSeq (·.push (.int (g j) t₃)))).get? kS = some (seqObj "list" (kA.push (.int (g j) t₃)) c2) := ⟨_, get?_update_seq hk₃ (·.push (.int (g j) t₃))⟩
      refine wpAny_bind (listUpdate_at hk₃ rfl ?_ (by rw [hz, sizeLine_eq]; lia) (Nat.le_trans (Nat.le_of_eq (Array.size_push ..)) (by rw [hz, sizeLine_eq]; lia)))
      refine wpAny_pure ⟨rfl, _, tk₃, kA.push (.int (g j) t₃), c2, rfl, fun b ob nb e' => ?_, ?_, hc2, (s1.2 a hka.symm).trans ha₃, ?_⟩
      · exact (s1.2 b (fr b ob e').1).trans (k₃ b ob nb (kh b ob nb e'))
      · refine G₃.turn (hid_mono fun b ob nb e' => ⟨(s1.2 b fun z => nb (z ▸ List.mem_cons_self ..)).trans e', nb⟩) subT (fun b hb => ?_) fun P hP ob e' => (s1.2 P fun z => nt.1 (z ▸ hP)).trans e'
        by_cases z : b = kS
        · rw [z]; exact ⟨_, hc2⟩
        · obtain ⟨ob, e'⟩ := G₃.low b hb
          exact ⟨ob, (s1.2 b z).trans e'⟩
      · rw [List.range_succ, List.map_append, Array.toList_push]
        exact ksk_snoc hI
    case done =>
      rintro s' ⟨h', tk, kA, e, rfl, kh, G', hk', ha', hI⟩
      rw [Nat.zero_add, hal] at hI
      refine wpAny_bind (listItems_at hk' rfl ?_)
      refine ksk_end_ok (s := { s with heap := h', toks := tk }) hk' ha' hka hI hal h2 h64 ho hs fun h₅ c hc₅ old => ⟨_, rfl, wpAny_pure ⟨_, rfl, ?_⟩⟩
      have kh₅ : KH s.heap h₅ := fun b ob nb e' => old b ob (fr b ob e').1 (fr b ob e').2 (kh b ob nb e')
      have G₅ : Good C μ h₅ := G'.turn (hid_mono fun b ob nb e' => ⟨old b ob (fun z => nb (z ▸ List.mem_cons_self ..)) (fun z => nb (z ▸ List.mem_cons_of_mem _ (List.mem_cons_self ..))) e', fun m => nb (List.mem_cons_of_mem _ (List.mem_cons_of_mem _ m))⟩) G.sub (fun b hb => by
        obtain ⟨ob, e'⟩ := G'.low b (List.mem_cons_of_mem _ (List.mem_cons_of_mem _ hb))
        obtain ⟨ob', e''⟩ := G.low b hb
        exact ⟨ob, old b ob (fr b ob' e'').1 (fr b ob' e'').2 e'⟩) fun P hP ob e' => old P ob (fun z => nt.1 (z ▸ hP)) (fun z => nt.2 (z ▸ hP)) e'
      refine ret _ h₅ tk kh₅ G₅ (.list ⟨c, hid_get hc₅ fun hm => ?_⟩ ?_)
      · obtain ⟨ob, e'⟩ := G.low _ hm
        exact (fr _ _ e').2 rfl
      · have all : ∀ l : List Nat, (∀ i ∈ l, i < n) → RepL C (hideAll h₅ μ) (l.map fun i => acc.toList.getD i .none) (l.map fun i : Nat => D.int (i : Int)) := by
          intro l
          induction l with
          | nil => intro _; exact .nil
          | cons i l ih =>
            intro hl
            obtain ⟨t, et⟩ := hav i (hl i (List.mem_cons_self ..))
            rw [List.map_cons, List.map_cons, et]
            exact .cons (.int _ _) (ih fun j hj => hl j (List.mem_cons_of_mem _ hj))
        exact all o fun i hi => List.mem_range.mp (ho.mem_iff.mp hi)

theorem ev_sortedKey {e ke : Expr} {p1 pos kp : Pos} (hE : EnvF env) (hk : env.kindOf (Str.ofString "sorted") = some .globalImplicit) (he : Ev C (k + 2) env ρ X e (.rng 0 n 1)) (hke : Ev C (k + 2) env ρ X ke (.fn name qual params body scope clos)) (hl : LookAll ρ ρf) (hcl : ClOk env clos ρf)
    (h2 : 2 ≤ n) (h64 : n < 64) (ho : o.Perm (List.range n)) (hs : o.Pairwise (Rk g)) (hkey : ∀ i, i < n → FnC C k (.fn name qual params body scope clos) clos ρf [.int (i : Int)] (.int (g i)))
    (hev : eval (.Call (.Name (Str.ofString "sorted") p1) [e] [{ arg := some (Str.ofString "key"), value := ke, pos := kp }] pos) env = (do callWith pos (← eval (.Name (Str.ofString "sorted") p1) env) [] (backTo pos (starEach [e] env)) (backToKw pos (keywordEach [{ arg := some (Str.ofString "key"), value := ke, pos := kp }] env))) := by rfl)
    (hst : starEach [e] env = (false, eval e env) :: starEach [] env := by rfl)
    (hkw : backToKw pos (keywordEach [{ arg := some (Str.ofString "key"), value := ke, pos := kp }] env) = [(some (Str.ofString "key"), do let v ← eval ke env; standAt pos; pure v)] := by rfl) :
    Ev C (k + 2) env ρ X (.Call (.Name (Str.ofString "sorted") p1) [e] [{ arg := some (Str.ofString "key"), value := ke, pos := kp }] pos) (.list (o.map fun i : Nat => D.int (i : Int))) := by
  intro μ A s Q E G p rm ret
  rw [hev, hkw]
  refine wpAny_bind ((ev_builtin (X := X) (ρ := ρ) (C := C) (k := k + 2) hE hk rfl bb_sorted) μ A s _ E G p rm fun fv' h₁ tk₁ k₁ G₁ r₁ => ?_)
  cases r₁
  have ha' := evl_cons (X := X) (ρ := ρ) (C := C) (k := k + 2) (pos := pos) he evl_nil hst μ A { s with heap := h₁, toks := tk₁ }
  rw [hst] at ha' ⊢
  refine callWith_of (P := fun h => Good C μ h) rfl (fun h G => kp_builtin μ h G) (evalArgs_kw rfl ?_)
  have p₁ := Cn.stable _ _ _ G k₁ G₁ p
  refine ha' _ E G₁ p₁ rm fun vs h₂ tk₂ k₂ G₂ r₂ => ?_
  have p₂ := Cn.stable _ _ _ G₁ k₂ G₂ p₁
  refine wpAny_evalAll_cons (wpAny_bind (hke μ A _ _ E G₂ p₂ rm fun kv h₃ tk₃ k₃ G₃ r₃ => wpAny_bind (wpAny_standAt (wpAny_pure (wpAny_evalAll_nil ⟨G₃, ?_⟩)))))
  have p₃ := Cn.stable _ _ _ G₂ k₃ G₃ p₂
  have r₂' := DtL.stable _ _ _ _ G₂ k₃ G₃ r₂
  rcases r₂' with ⟨hv, ⟨⟩⟩
  exact ok_sortedKey h2 h64 ho hs hkey _ kv μ A _ _ E G₃ ⟨hv, r₃, p₃.1.clAt hl hcl⟩ rm fun v h' tk k₄ G₄ r₄ => ret v h' tk (((k₁.trans k₂).trans k₃).trans k₄) G₄ r₄
end
end Mine

open PySem PySem.W PyProof.Rows PySem.Spec PySem.Calls
set_option Elab.async false
set_option maxRecDepth 100000
set_option linter.unusedVariables false
namespace Mine
section
variable {C : Cx} {k : Nat} {A : Around} {env env₀ : Env} {cs : List (Str × Addr)} {ρ : List (Str × D)} {own : List (Addr × OD)} {b : Heap} {f s : Shared} {μ μ₀ : List Addr} {h' : Heap} {tk : Nat} {E : Value → Shared → Prop}

/-- the frame's own object in its slots alone -/
theorem Fm.slots (F : Fm C b f μ₀ env cs ρ own s) (hs : ∀ y o, y ≠ env.locals → s.heap.get? y = some o → h'.get? y = some o) (hn : ∀ m, s.heap.Ns env.locals m → h'.Ns env.locals m) : Fm C b f μ₀ env cs ρ own { s with heap := h', toks := tk } := by
  have hL : env.locals ∈ Wl env cs own := mem_Wl_L
  have hnd := F.co.nodup
  have gx : Ext (hideAll s.heap (Wl env cs own ++ μ₀)) (hideAll h' (Wl env cs own ++ μ₀)) := hid_mono fun x o n e => ⟨hs x o (fun q => n (q ▸ List.mem_append_left _ hL)) e, n⟩
  have ne : ∀ a ∈ cs.map (·.2) ++ own.map (·.1), a ≠ env.locals := fun a hm q => (List.nodup_cons.mp hnd).1 (q ▸ hm)
  obtain ⟨m, h1, h2⟩ := F.ns
  refine ⟨⟨let ⟨h, t, e⟩ := F.co.same; ⟨h', tk, by rw [e]⟩, F.co.good.turn gx F.co.good.sub (fun x hx => ?_) fun P hP o e => ?_, F.co.tb, fun x o e => ?_, F.co.btb, F.co.nodup, F.co.priv, F.co.disj⟩, F.envF, ⟨m, hn m h1, fun x d e hk => let ⟨v, e1, e2⟩ := h2 x d e hk; ⟨v, e1, e2.mono gx⟩⟩, fun x c e => ?_, fun x d e => ?_, fun p hp => ?_⟩
  · by_cases q : x = env.locals
    · obtain ⟨o, _, _, e, _⟩ := hn m h1
      exact ⟨o, q ▸ e⟩
    · obtain ⟨o, e⟩ := F.co.good.low x hx
      exact ⟨o, hs x o q e⟩
  · exact hs P o (fun q => (F.co.priv _ hL).2 (q ▸ hP)) e
  · exact hs x o (fun q => by rw [q, (F.co.priv _ hL).1] at e; cases e) (F.co.keep x o e)
  · obtain ⟨e1, ov, ⟨o, c1, c2⟩, h3⟩ := F.cell x c e
    exact ⟨e1, ov, ⟨o, hs c o (ne c (List.mem_append_left _ (List.mem_map.mpr ⟨(x, c), mem_of_lookup e, rfl⟩))) c1, c2⟩, fun d ed hk => let ⟨v, e2, e3⟩ := h3 d ed hk; ⟨v, e2, e3.mono gx⟩⟩
  · rcases F.kinds x d e with h | h | ⟨h1, h2, c, v, h3, h4, h5, ⟨o, h6, h6'⟩, h7⟩
    · exact .inl h
    · exact .inr (.inl h)
    · exact .inr (.inr ⟨h1, h2, c, v, h3, h4, h5, ⟨o, hs c o (fun q => h4 (q ▸ hL)) h6, h6'⟩, h7.mono gx⟩)
  · exact (F.ownd p hp).mono gx fun o e => hs _ o (ne _ (List.mem_append_right _ (List.mem_map.mpr ⟨p, hp, rfl⟩))) e

/-- into a def of the text that may raise -/
theorem enterC {a : Addr} {oc : Value} {od : Option Addr} {osl : Array (Option Value)} {fd : FuncData} {body : List Stmt} (args : List (Str × Value × D)) {vals : List Value} {Q : Value → Shared → Prop}
    (G : Good C μ s.heap) (rm : Room (k + 1) A)
    (ho : (hd.heap_39 C.w.params).lookup a = some ⟨oc, od, .func fd, osl⟩) (hcd : codeIn (hd.heap_39 C.w.params) fd.code fd.qualname = true) (hbody : fd.body = .stmts body)
    (hbind : bindArgs fd ⟨vals, []⟩ = pure (args.map fun x => (x.1, x.2.1))) (hclo : fd.closure = []) (hnd : decide (args.map (·.1)).Nodup = true)
    (hkind : ((args.map fun x => (x.1, x.2.1)).all fun y => fd.scope.names.lookup y.1 == some .local || fd.scope.names.lookup y.1 == some .cell) = true)
    (hcn : ((fd.scope.names.filter (·.2 == .cell)).map (·.1)).Nodup)
    (hglob : fd.globals = mainGlobals) (hbi : fd.builtins = builtinsNs)
    (hco : fd.scope.isCoroutine = false) (hgen : fd.scope.isGenerator = false) (hk : fd.scope.kind = .function)
    (hargs : ArgsRep C (hideAll s.heap μ) args)
    (h : ∀ s₁, Fm C (hideAll s.heap TB) s μ (callEnvC fd s.heap.objs.size a) (callEnvC fd s.heap.objs.size a).cells (args.map fun x => (x.1, x.2.2)) [] s₁ → Ext s.heap s₁.heap → s.heap.get? s.heap.objs.size = none → Room k (A.deeper (callEnvC fd s.heap.objs.size a)) →
      wpAny (model C.prog C.w) (A.deeper (callEnvC fd s.heap.objs.size a)) (execs body (callEnvC fd s.heap.objs.size a)) (fun fl s' => Q (match fl with | .ret v => v | _ => .none) s')
        (fun e s' => wpAny (model C.prog C.w) (A.deeper (callEnvC fd s.heap.objs.size a)) (leaving (callEnvC fd s.heap.objs.size a) e) (fun _ s'' => E e s'') (fun e' s'' => E e' s'') s') s₁) :
    wpAny (model C.prog C.w) A (call (.ref a) vals) Q E s := by
  have kx : Ext (hideAll s.heap μ) s.heap := hid_ext _ _
  have hobj := G.K _ _ ho
  have hkd := kindsX hkind (s.heap.objs.size + 1)
  refine wpAny_call (codeAny_call_cells rm.lim (kx _ _ hobj) rfl (G.T.nolimit.keeps kx) (codeRec_of (G.K.keeps kx) hcd) hbody hbind hclo hkd (fun s₁ x => ?_) hco hgen hk)
  have F := fm_start (env := callEnvC fd s.heap.objs.size a) (args := args) G ⟨hk, hglob, hbi⟩ x (of_decide_eq_true hnd) (by
      show ((cellsFrom _ fd.scope.names []).map (·.1)).Nodup
      rw [cellsFrom_names, List.map_nil, List.append_nil]
      exact List.pairwise_reverse.mpr (hcn.imp Ne.symm)) (fun z hz => hkd _ (List.mem_map.mpr ⟨z, hz, rfl⟩)) hargs.all
  refine wpAny_mono (h s₁ F x.toInCall.keep (fresh_size _) rm.deeper) (fun fl s' hr => ?_) fun e s' hr => hr
  exact hr

/-- int_divmod by nought -/
theorem idm_zero {B : Heap} {outer : List Env} {x : Int} {v v0 : Value} {Q : Value → Shared → Prop} (G : Good C μ s.heap) (rm : Room (k + 1) A) (hfr : A.frames = some outer) (stays : B.StaysIn s.heap) (frames : s.heap.FunFrames B outer)
    (hv : Rep C (hideAll s.heap μ) v (.int x)) (hv0 : Rep C (hideAll s.heap μ) v0 (.int 0))
    (ret : ∀ h' e t, Heap.FlyingW B outer e (.type "ZeroDivisionError") t h' → s.heap.UpToSlots h' → ∀ tk, E (.ref e) { s with heap := h', toks := tk }) : wpAny (model C.prog C.w) A (call (.ref 70) [v, v0]) Q E s := by
  refine enterC [(Str.ofString "a", v, .int x), (Str.ofString "b", v0, .int 0)] G rm rfl rfl rfl rfl rfl rfl rfl (by decide) rfl rfl rfl rfl rfl ⟨hv, hv0, trivial⟩ (fun s₁ F x₁ hnew rm' => ?_)
  have hE := F.envF
  obtain ⟨m, hns, _⟩ := F.ns
  obtain ⟨vb, r1, r2, _⟩ := F.sees.1 (Str.ofString "b") (.int 0) rfl
  cases r1
  refine x_cons (wpAny_If (wpAny_isTrue_Compare1 (wpAny_Name (r2 _ _ _ s₁ (hid_ext _ _) (wpAny_Constant_int ?_)) (by decide)) rfl))
  with_reducible refine PyProof.Rows.eq_int ?_
  refine wpAny_truthy_bool ?_
  refine x_cons (Raise_classB rm'.handled excClass_ZeroDivisionError (by rw [isSubtype_type]; kernel_rfl) ?hx ?hr)
  case hx =>
    refine Name_function_global hE.kind rfl (loadGlobal_builtin (mg := C.mg) (mb := C.mb) ?_ (mg_none_of F.co.good.K F.co.good.T.g rfl) ?_ ((F.co.good.T.builtins _ (by decide)).trans (ExcClass.boot excClass_ZeroDivisionError)) ⟨rfl, rfl⟩) (by decide)
    · rw [hE.glob]
      exact F.co.good.T.g.keeps (hid_ext _ _)
    · rw [hE.bi]
      exact F.co.good.T.b.keeps (hid_ext _ _)
  case hr =>
    intro h₂ e hn
    obtain ⟨ob, t, he, hcls, hdt⟩ := hn.there
    have hx₂ : Ext s.heap h₂ := fun y o q => hn.keeps y o (x₁ y o q)
    have hBn : ∀ y, s.heap.get? y = none → B.get? y = none := fun y q => by
      cases w : B.get? y with
      | none => rfl
      | some o => rw [stays y o w] at q; cases q
    have hen : B.get? e = none := by
      cases w : B.get? e with
      | none => rfl
      | some o => have := x₁ _ _ (stays e o w); rw [hn.new] at this; cases this
    refine wpAny_leaving_firstW (base := B) (env := callEnvC _ s.heap.objs.size 70) (outer := outer) (L := s.heap.objs.size) (a0 := t) (Around.frames_deeper hfr) (Heap.FunFrames.cons (m := m) (by rw [hE.kind]; decide) rfl (hns.keeps hn.keeps) (hBn _ hnew) (frames.of_keeps fun y o q _ => ⟨o, hx₂ y o q, rfl⟩)) rfl he (fun y o q => hx₂ y o (stays y o q)) hen hdt rfl rfl fun h₃ hL => ?_
    obtain ⟨k1, ⟨_, _, k2⟩, k3, k4⟩ := hL
    rw [hcls] at k3
    obtain ⟨hh, tk', es⟩ := F.co.same
    rw [es]
    exact ret h₃ e t ⟨k1, hen, k2, k3⟩ ((Heap.UpToSlots.of_keeps hx₂).trans k4) _

/-- _law_refused(x) -/
theorem refused_ok {B : Heap} {outer : List Env} {x : Int} {v : Value} {Q : Value → Shared → Prop} (G : Good C μ s.heap) (rm : Room (k + 2) A) (hfr : A.frames = some outer) (stays : B.StaysIn s.heap) (frames : s.heap.FunFrames B outer) (hB : Ext (hideAll s.heap μ) B)
    (hv : Rep C (hideAll s.heap μ) v (.int x)) (ret : ∀ h' tk, B.StaysIn h' → s.heap.UpToSlots h' → Q (.bool true) { s with heap := h', toks := tk }) : wpAny (model C.prog C.w) A (call (.ref 109) [v]) Q E s := by
  refine enterC [(Str.ofString "x", v, .int x)] G rm rfl rfl rfl rfl rfl rfl rfl (by decide) rfl rfl rfl rfl rfl ⟨hv, trivial⟩ (fun s₁ F x₁ hnew rm' => ?_)
  have hE := F.envF
  obtain ⟨m, hns, _⟩ := F.ns
  obtain ⟨vx, r1, r2, _⟩ := F.sees.1 (Str.ofString "x") (.int x) rfl
  have hBn : ∀ y, s.heap.get? y = none → B.get? y = none := fun y q => by
    cases w : B.get? y with
    | none => rfl
    | some o => rw [stays y o w] at q; cases q
  have hfr₁ : ∀ env, (A.deeper env).frames = some (env :: outer) := fun env => Around.frames_deeper hfr
  refine x_cons (wpAny_Try_except ?_)
  refine x_cons (wpAny_Expr_any ?_ rfl rfl)
  refine wpAny_bind (Name_function_global hE.kind rfl (loadGlobal_global (mg := C.mg) (by rw [hE.glob]; exact F.co.good.T.g.keeps (hid_ext _ _)) (mg_of F.co.good.K F.co.good.T.g rfl) ?_) (by decide))
  show wpAny _ _ (callWith _ _ [] _ []) _ _ _
  obtain ⟨μ₁, G₁⟩ : ∃ μ₁, Good C μ₁ s₁.heap := ⟨_, F.co.good⟩
  refine callWith_of (P := fun h => Good C μ₁ h) rfl (fun h G => kp_fn rfl μ₁ h G) (evalArgs_plain ?_)
  refine spliced_cons (wpAny_Name (r2 _ _ _ s₁ (hid_ext _ _) ?_) (by decide))
  refine spliced_cons ?_
  rw [if_neg Bool.false_ne_true]
  refine wpAny_Constant_int (spliced_nil ⟨G₁, ?_⟩)
  refine idm_zero (B := B) (x := x) F.co.good rm' (hfr₁ _) (fun y o q => x₁ y o (stays y o q)) (Heap.FunFrames.cons (m := m) (by rw [hE.kind]; decide) rfl hns (hBn _ hnew) (frames.of_keeps fun y o q _ => ⟨o, x₁ y o q, rfl⟩)) r1 (.int 0 _) fun h₃ e t hfl hsm₃ tk => ?_
  refine wpAny_looks_onW (hfr₁ _) rfl hfl fun h₄ hheld hsm₄ => ?_
  refine wpAny_landsW hheld fun h₅ hfl₅ hsm₅ => ?_
  obtain ⟨ob, hob, hobc⟩ := hfl₅.there
  refine wpAny_handleBy_builtin (X := "ZeroDivisionError") (T := "ZeroDivisionError") (b := true) PySem.F.isExc_ZeroDivisionError PySem.F.notTuple_ZeroDivisionError (by rw [isSubtype_type]; kernel_rfl) ?_
  have keepB : Ext (hideAll s.heap μ) h₅ := fun y o q => hfl₅.1 y o (hB y o q)
  refine Name_function_global hE.kind rfl (loadGlobal_builtin (mg := C.mg) (mb := C.mb) (by rw [hE.glob]; exact G.T.g.keeps keepB) (mg_none_of G.K G.T.g rfl) (by rw [hE.bi]; exact G.T.b.keeps keepB) ((G.T.builtins _ (by decide)).trans (ExcClass.boot excClass_ZeroDivisionError)) ⟨rfl, ⟨ob, hob, hobc⟩, ?_⟩) (by decide)
  refine lands_againW hfl₅ fun h₆ hfl₆ hsm₆ => ?_
  refine x_cons (wpAny_Return_some ?_)
  refine wpAny_pure ?_
  obtain ⟨hh, tk', es⟩ := F.co.same
  rw [es]
  have u1 : s.heap.UpToSlots h₆ := (Heap.UpToSlots.of_keeps x₁).trans (hsm₃.trans (hsm₄.trans (hsm₅.trans hsm₆)))
  exact ret h₆ tk hfl₆.1 u1

/-- if t or not _law_refused(e): .. where neither holds -/
theorem x_if_refused {t1 e : Expr} {p1 pc pu po pos : Pos} {x : Int} {body rest : List Stmt} {Q : Flow → Shared → Prop} (F : Fm C b f μ₀ env cs ρ own s) (rm : Room (k + 2) A) (hfr : A.frames = some [env]) (hfl : env.frame = some env.locals)
    (ht : EvB C (k + 2) env ρ (OwnX C own) t1 false) (he : Ev C (k + 2) env ρ (OwnX C own) e (.int x)) (hk : env.kindOf (Str.ofString "_law_refused") = some .globalImplicit)
    (cont : ∀ s', Fm C b f μ₀ env cs ρ own s' → wpAny (model C.prog C.w) A (execs rest env) Q E s')
    (hst : starEach [e] env = (false, eval e env) :: starEach [] env := by rfl) :
    wpAny (model C.prog C.w) A (execs (.If (.BoolOp .Or [t1, .UnaryOp .Not (.Call (.Name (Str.ofString "_law_refused") p1) [e] [] pc) pu] po) body [] pos :: rest) env) Q E s := by
  have hE := F.envF
  refine x_cons (wpAny_If ?_)
  show wpAny _ _ (do match BoolOp.Or, ← isTrue t1 env (eval t1 env) with
    | .And, false => pure false
    | .Or, true => pure true
    | _, _ => allTrue .Or [.UnaryOp .Not (.Call (.Name (Str.ofString "_law_refused") p1) [e] [] pc) pu] env) _ E s
  refine wpAny_bind (F.evb rm ht fun s₁ F₁ => ?_)
  show wpAny _ _ (do match BoolOp.Or, ← (do return !(← (do let v ← eval (.Call (.Name (Str.ofString "_law_refused") p1) [e] [] pc) env; standAt pc; holding [v] (truthy v)))) with
    | .And, false => pure false
    | .Or, true => pure true
    | _, _ => allTrue .Or [] env) _ E s₁
  refine wpAny_bind (wpAny_bind (wpAny_bind ?_))
  show wpAny _ _ (do callWith pc (← eval (.Name (Str.ofString "_law_refused") p1) env) [] (backTo pc (starEach [e] env)) []) _ E s₁
  refine wpAny_bind (Name_function_global hE.kind hk (loadGlobal_global (mg := C.mg) (by rw [hE.glob]; exact F₁.co.good.T.g.keeps (hid_ext _ _)) (mg_of F₁.co.good.K F₁.co.good.T.g rfl) ?_) (by decide))
  rw [hst]
  refine callWith_of (P := fun h => Good C (Wl env cs own ++ μ₀) h) rfl (fun h G => kp_fn rfl _ h G) (evalArgs_plain (spliced_cons ?_))
  refine F₁.ev rm he fun v s₂ F₂ _ _ r => spliced_nil ⟨F₂.co.good, ?_⟩
  obtain ⟨m, hns, _⟩ := F₂.ns
  have hL : env.locals ∈ Wl env cs own := mem_Wl_L
  refine refused_ok (B := hideAll s₂.heap [env.locals]) (outer := [env]) F₂.co.good rm hfr (hid_ext _ _) (Heap.FunFrames.cons (m := m) (by rw [hE.kind]; decide) hfl hns (hideAll_none _ (List.mem_singleton.mpr rfl)) trivial) (hid_less fun y hy => by
    rw [List.mem_singleton.mp hy]; exact List.mem_append_left _ hL) r fun h' tk st up => ?_
  refine wpAny_bind (wpAny_standAt (wpAny_holding (wpAny_truthy_bool (wpAny_pure (wpAny_pure ?_)))))
  have F₃ := F₂.slots (tk := tk) (fun y o ne q => st y o (hid_get q fun w => ne (List.mem_singleton.mp w))) fun m hm => up.ns hm
  exact x_nil (cont _ F₃)
end
end Mine

open PySem PySem.W PyProof.Rows PySem.Spec PySem.Calls
set_option Elab.async false
set_option maxRecDepth 100000
set_option linter.unusedVariables false
namespace Mine

theorem pick_take {ds : List D} {n : Nat} (h : n ≤ ds.length) : pickD ds none (some (n : Int)) none = ds.take n := by
  have e : sliceBounds none (some (n : Int)) none ds.length = (((0 : Nat) : Int), (n : Int), 1) := by
    unfold sliceBounds
    simp only [Option.getD_none, gt_iff_lt, show (0 : Int) < 1 by decide, if_true, Int.natCast_zero, Prod.mk.injEq, true_and, and_true]
    rw [if_neg (by lia)]
    lia
  unfold pickD
  rw [e, sliceRange_one, Nat.sub_zero]
  apply List.ext_getElem?
  intro i
  have key : ∀ (m : Nat), m ≤ ds.length → ((List.range m).map (0 + ·)).filterMap (ds[·]?) = ds.take m := by
    intro m
    induction m with
    | zero => intro _; simp
    | succ m ih =>
      intro hm
      rw [List.range_succ, List.map_append, List.filterMap_append, ih (by lia), List.take_succ]
      simp [List.getElem?_eq_getElem (show m < ds.length by lia)]
  rw [key n h]

section
variable {C : Cx} {k : Nat} {env : Env} {clos : List (Str × Addr)} {ρ ρf : List (Str × D)} {X : SA C}

theorem EvB.eq {e : Expr} {b b' : Bool} (h : EvB C k env ρ X e b) (q : b = b') : EvB C k env ρ X e b' := q ▸ h
theorem Ev.eq {e : Expr} {d d' : D} (h : Ev C k env ρ X e d) (q : d = d') : Ev C k env ρ X e d' := q ▸ h
theorem ev_orB {x y : Expr} {pos : Pos} {a b : Bool} (hx : Ev C k env ρ X x (.bool a)) (hy : a = false → Ev C k env ρ X y (.bool b)) : Ev C k env ρ X (.BoolOp .Or [x, y] pos) (.bool (a || b)) := by
  intro μ A s Q E G p rm ret
  refine wpAny_Or2 (hx μ A s _ E G p rm fun v h₁ tk₁ k₁ G₁ r₁ => ?_)
  cases r₁
  refine wpAny_truthy_bool ?_
  cases a with
  | true => exact ret _ h₁ tk₁ k₁ G₁ (.bool _)
  | false => exact hy rfl μ A _ Q E G₁ (Cn.stable _ _ _ G k₁ G₁ p) rm fun v h₂ tk₂ k₂ G₂ r₂ => ret v h₂ tk₂ (k₁.trans k₂) G₂ r₂

theorem c_neB {a b : Bool} : Bin C k (compareOp .NotEq) (.bool a) (.bool b) (.bool (a != b)) := c_ne_of (n := 0) (m := 0) (.bool a) (.bool b) (by decide)
theorem c_neNil {l : List Int} : Bin C k (compareOp .NotEq) (.list (l.map D.int)) (.list []) (.bool (!l.isEmpty)) := by
  have h := c_ne_of (C := C) (k := k) (n := 1) (m := 1) (.list (py_ints (n := 0) l)) (.list .nil) (by decide)
  cases l with
  | nil => exact h
  | cons x l => exact h

/-- lambda i: numbers[i] % p -/
theorem lam_num {qual : Str} {pp p1 p2 p3 p4 p5 : Pos} {N : List Int} {p : Int} (hp : p ≠ 0) {i : Nat} (hi : i < N.length) (hz : N.length ≤ 100) : FnC C (k + 1) (.fn "<lambda>" qual { posonlyargs := [], args := [{ arg := Str.ofString "i", annotation := none, pos := pp }], vararg := none, kwonlyargs := [], kw_defaults := [], kwarg := none, defaults := [] }
    (.expr (.BinOp (.Subscript (.Name (Str.ofString "numbers") p1) (.Name (Str.ofString "i") p2) p3) .Mod (.Name (Str.ofString "p") p4) p5)) { kind := ScopeKind.function, names := [(Str.ofString "i", NameKind.local), (Str.ofString "numbers", NameKind.free), (Str.ofString "p", NameKind.free)], isGenerator := false, isCoroutine := false, more := [] } clos)
    clos [(Str.ofString "numbers", .list (N.map D.int)), (Str.ofString "p", .int p)] [.int (i : Int)] (.int ((N.getD i 0).fmod p)) := by
  rintro fv vs μ A s Q E G ⟨rf, cl, ra⟩ rm ret
  rcases ra with ⟨h1, ⟨⟩⟩
  rename_i v1
  obtain ⟨w, doc, pm, cdv, ct, rfl, fo⟩ := fnOk_of (vals := [v1]) [(Str.ofString "i", v1, .int (i : Int))] rf (fun _ _ _ _ => rfl) rfl rfl rfl rfl rfl rfl ⟨h1, trivial⟩ cl rfl
  exact enterE G rm fo rfl (fun L X => ev_binop (ev_sub (d := .int (N.getD i 0)) (ev_name rfl) (ev_name rfl) (sub_list (by lia) (by lia) (by rw [Int.toNat_natCast]; exact int_list hi))) (ev_name rfl) (b_mod hp)) ret
end
end Mine

open PySem PySem.W PyProof.Rows PySem.Spec PySem.Calls
set_option Elab.async false
set_option maxRecDepth 100000
set_option linter.unusedVariables false
namespace Mine

noncomputable def lawG (N : List Int) (p : Nat) (i : Nat) : Int := (N.getD i 0).fmod p
noncomputable def lawR (N : List Int) (p : Nat) : List Int := N.map fun x => x.fmod p
noncomputable def lawL (N : List Int) (p : Nat) : List (Int × Int) := lst (lawR N p) (2 * p - 1)
noncomputable def lawA (N : List Int) (p : Nat) (O : List Nat) : List Int := (O.take (2 * p - 2)).map (lawG N p)
noncomputable def lawF (N : List Int) (p : Nat) (i : Nat) : Int := ((lawL N p).getD i (0, 0)).1
noncomputable def lawK (N : List Int) (p : Nat) : List Nat := (List.range (p - 1)).filter fun k => lawF N p k == lawF N p (k + p - 1)
noncomputable def lawE (N : List Int) (p : Nat) : List (Int × Int) := (List.range p).map (endOf (lawL N p) (2 * p - 2))
noncomputable def lawH (N : List Int) (p : Nat) (O : List Nat) (i : Nat) : Int := N.getD (O.getD i 0) 0
noncomputable def lessN (A : List Int) (r : Nat) : Int := ((A.filter fun x => decide (x < (r : Int))).length : Nat)

theorem cast_getD (O : List Nat) (i : Nat) : ((O.map fun i : Nat => (i : Int)).getD i 0).toNat = O.getD i 0 := by
  rw [List.getD_eq_getElem?_getD, List.getD_eq_getElem?_getD, List.getElem?_map]
  cases O[i]? <;> rfl

/-- what the numbers, their listing and p must be to each other -/
structure LawOk (N : List Int) (p : Nat) (O : List Nat) (m : Int) : Prop where
  perm : O.Perm (List.range (2 * p - 1))
  sort : O.Pairwise (Rk (lawG N p))
  rows : lawL N p = O.map fun i : Nat => (lawG N p i, (i : Int))
  ends : lawE N p = (List.range p).map fun r : Nat => (lessN (lawA N p O) r, lessN (lawA N p O) r + (((lawA N p O).count (r : Int) : Nat) : Int))
  tab : tabC p (lawR N p) p = tal ((sumsOf p N).map fun x => x.fmod p)
  egz : (List.range p).map (fun r : Nat => (gv (tabC p (lawR N p) p) (r : Int)).fmod p) = [1] ++ List.replicate (p - 1) 0
  along : alTab (lawF N p) p (p - 1) = tal ((alSums (lawH N p O) p (p - 1)).map fun x => x.fmod p)
  max_mem : m ∈ (lawE N p).map fun q => q.2 - q.1
  max_le : ∀ x ∈ (lawE N p).map fun q => q.2 - q.1, x ≤ m
  alike : (lawK N p).isEmpty = !decide ((p : Int) ≤ m)
  full : (lawK N p).isEmpty = true → ((List.range p).map fun i : Nat => (i : Int)).Perm ((alTab (lawF N p) p (p - 1)).map (·.1))

section
variable {C : Cx} {k : Nat} {A : Around} {s : Shared} {μ : List Addr} {E : Value → Shared → Prop}

set_option maxHeartbeats 8000000 in
theorem law_ok {scr : List Int} {p : Nat} {O : List Nat} {m : Int} {v : Value} {Q : Value → Shared → Prop} (hl : scr.length ≤ 63) (hp : p = [3, 3, 5].getD (scr.length % 3) 0) (h2 : 2 ≤ p) (h5 : p ≤ 5) (M : LawOk (numsOf scr (2 * p - 1)) p O m)
    (G : Good C μ s.heap) (rm : Room (k + 200) A) (hfr : A.frames = some []) (hv : Rep C (hideAll s.heap μ) v (.scr (scr.map D.int)))
    (ret : ∀ h' tk, KH s.heap h' → Good C μ h' → Q (.bool true) { s with heap := h', toks := tk }) : wpAny (model C.prog C.w) A (call (.ref 174) [v]) Q E s := by
  refine enterC [(Str.ofString "script", v, .scr (scr.map D.int))] G rm rfl rfl rfl rfl rfl rfl rfl (by decide) rfl rfl rfl rfl rfl ⟨hv, trivial⟩ (fun s₁ F x₁ hnew rm' => ?_)
  have hE := F.envF
  obtain ⟨N, hN⟩ : ∃ N, N = numsOf scr (2 * p - 1) := ⟨_, rfl⟩
  have hNl : N.length = 2 * p - 1 := by rw [hN]; exact numsOf_len _ _
  have hNb : ∀ x ∈ N, x.natAbs < 2 ^ 20 := by rw [hN]; exact numsOf_bd (by lia) (by lia) hl
  have e3 : ((scr.map D.int).length : Int).fmod 3 = ((scr.length % 3 : Nat) : Int) := by rw [List.length_map]; exact fmod_nat _ _
  have hps : [D.int 3, D.int 3, D.int 5][((scr.length % 3 : Nat) : Int).toNat]? = some (.int p) := by
    rw [Int.toNat_natCast]
    have : scr.length % 3 < 3 := Nat.mod_lt _ (by decide)
    rw [hp]
    generalize scr.length % 3 = r at *
    match r, this with
    | 0, _ => rfl
    | 1, _ => rfl
    | 2, _ => rfl
  refine x_assign F rm' (d := .int p) (ev_sub (ev_list (evl_cons ev_int (evl_cons ev_int (evl_cons ev_int evl_nil)))) (e3 ▸ ev_binop (ev_call (ev_builtin hE rfl rfl bb_len) (evl_cons (ev_name rfl) evl_nil) kp_builtin (f_lenS (by rw [List.length_map]; lia))) ev_int (b_mod (by decide))) (sub_list (by lia) (by lia) hps)) (.inr ⟨rfl, _, rfl⟩) fun s₂ F₂ => ?_
  have es : (2 : Int) * (p : Int) - 1 = ((2 * p - 1 : Nat) : Int) := by lia
  refine x_assign F₂ rm' (d := .int ((2 * p - 1 : Nat) : Int)) (es ▸ ev_binop (ev_binop ev_int (ev_name rfl) (b_mul (mulOk (by decide)))) ev_int b_sub) (.inl rfl) fun s₃ F₃ => ?_
  have i1 := numbers_ok (C := C) (k := k + 198) (scr := scr) (size := 2 * p - 1) (by lia) (by lia) hl
  rw [← hN] at i1
  refine x_assign F₃ rm' (ev_call (ev_global hE rfl rfl) (evl_cons (ev_name rfl) (evl_cons (ev_name rfl) evl_nil)) (kp_fn rfl) i1) (.inr ⟨rfl, _, rfl⟩) fun s₄ F₄ => ?_
  rw [← hN] at M
  obtain ⟨R, hR⟩ : ∃ R, R = lawR N p := ⟨_, rfl⟩
  have hRl : R.length = 2 * p - 1 := by rw [hR, lawR, List.length_map]; exact hNl
  have i2 := rests_ok (C := C) (k := k + 99) (l := N) (p := p) (by lia) (by lia) (by lia) (fun x hx => by have := hNb x hx; lia)
  rw [show N.map (fun x => x.fmod p) = R from hR.symm] at i2
  refine x_assign F₄ rm' (ev_call (ev_global hE rfl rfl) (evl_cons (ev_name rfl) (evl_cons (ev_name rfl) evl_nil)) (kp_fn rfl) i2) (.inl rfl) fun s₅ F₅ => ?_
  have c1 : ((((R.map D.int).length : Nat) : Int) != ((2 * p - 1 : Nat) : Int)) = false := by rw [List.length_map, hRl]; simp
  refine x_if_refused (x := N.getD 0 0) F₅ rm' (Around.frames_deeper hfr) rfl ?t ?e rfl fun s₆ F₆ => ?c
  case t => exact (evb_compare (ev_len hE rfl (ev_name rfl) (by rw [List.length_map]; lia)) (ev_name rfl) c_ne).eq c1
  case e => exact ev_sub (ev_name rfl) ev_int (sub_list (by decide) (by decide) (int_list (by lia)))
  have hkey : ∀ qual pp p1 p2 p3 p4 p5 clos i, i < 2 * p - 1 → _ := fun qual pp p1 p2 p3 p4 p5 clos i (hi : i < 2 * p - 1) => lam_num (C := C) (k := k + 196) (qual := qual) (pp := pp) (p1 := p1) (p2 := p2) (p3 := p3) (p4 := p4) (p5 := p5) (clos := clos) (N := N) (p := p) (by lia) (i := i) (by lia) (by lia)
  refine x_assign F₆ rm' (ev_sortedKey (k := k + 197) (n := 2 * p - 1) (g := lawG N p) (o := O) hE rfl (ev_range hE rfl (ev_name rfl)) (ev_lambda (173, 171, Str.ofString "law.<locals>.<lambda>") (by decide) hE rfl rfl (closure_ok rfl)) (ρf := [(Str.ofString "numbers", .list (N.map D.int)), (Str.ofString "p", .int p)]) ⟨rfl, rfl, trivial⟩ ⟨⟨.inl rfl, rfl⟩, ⟨.inl rfl, rfl⟩, trivial⟩ (by lia) (by lia) M.perm M.sort (fun i hi => hkey _ _ _ _ _ _ _ _ i hi)) (.inl rfl) fun s₇ F₇ => ?_
  obtain ⟨Oi, hOi⟩ : ∃ Oi : List Int, Oi = O.map fun i : Nat => (i : Int) := ⟨_, rfl⟩
  have hOl : O.length = 2 * p - 1 := by rw [M.perm.length_eq, List.length_range]
  have eOi : (O.map fun i : Nat => D.int (i : Int)) = Oi.map D.int := by rw [hOi, List.map_map]; rfl
  rw [eOi] at F₇
  have hOil : Oi.length = 2 * p - 1 := by rw [hOi, List.length_map]; exact hOl
  have hOib : ∀ x ∈ Oi, 0 ≤ x ∧ x < N.length := fun x hx => by
    rw [hOi] at hx
    obtain ⟨i, hi, rfl⟩ := List.mem_map.mp hx
    have := List.mem_range.mp (M.perm.mem_iff.mp hi)
    lia
  have i3 := listing_ok (C := C) (k := k + 189) (r := R) (by lia)
  obtain ⟨Ls, hLs⟩ : ∃ Ls, Ls = lawL N p := ⟨_, rfl⟩
  have eLs : lst R R.length = Ls := by rw [hLs, hRl, hR]; rfl
  rw [eLs] at i3
  have hLl : Ls.length = 2 * p - 1 := by rw [hLs]; exact lst_len _ _
  refine x_assign F₇ rm' (ev_call (ev_global hE rfl rfl) (evl_cons (ev_name rfl) evl_nil) (kp_fn rfl) i3) (.inr ⟨rfl, _, rfl⟩) fun s₈ F₈ => ?_
  have hOz : ∀ z ∈ Oi, lawG N p z.toNat = (N.getD z.toNat 0).fmod p := fun z _ => rfl
  have eC : ((Oi.map D.int).filter fun _ => true).map (fun d => tupD (lawG N p (keyI d).toNat, keyI d)) = Ls.map tupD := by
    rw [filter_tt, hLs, M.rows, hOi, List.map_map, List.map_map, List.map_map]
    rfl
  refine x_if_no F₈ rm' (evb_compare (ev_name rfl) ((ev_listcomp (q := fun _ => true) (g := fun d => tupD (lawG N p (keyI d).toNat, keyI d)) [(Str.ofString "numbers", .list (N.map D.int)), (Str.ofString "p", .int p)] (clOf _ _) hE (ev_name rfl) (goes_name it_list) ⟨rfl, rfl, trivial⟩ ⟨⟨⟨.inl rfl, .inr rfl, rfl, rfl, rfl⟩, ⟨.inl rfl, .inr rfl, rfl, rfl, rfl⟩, trivial⟩, closure_ok rfl, rfl, by decide, by decide, by rw [List.length_map]; lia, fun d => [(Str.ofString "i", d)], fun L => tgt_name (.inl rfl), fun d' hd' L X => tst_nil, fun d' hd' _ L' X => ?el, fun d' _ => keep_name rfl⟩).eq (congrArg D.list eC)) (c_ne_same (n := 5) (.list (py_pairs Ls)) (by decide))) fun s₉ F₉ => ?_
  case el =>
    obtain ⟨z, hz, rfl⟩ := List.mem_map.mp hd'
    obtain ⟨z0, z1⟩ := hOib z hz
    exact ev_tuple (evl_cons (ev_binop (ev_sub (ev_name rfl) (ev_name rfl) (sub_list z0 (by lia) (int_list (by lia)))) (ev_name rfl) (b_mod (by lia))) (evl_cons (ev_name rfl) evl_nil))
  have eA0 : pickD (Oi.map D.int) none (some ((2 * p - 1 - 1 : Nat) : Int)) none = (Oi.take (2 * p - 2)).map D.int := by
    rw [pick_take (by rw [List.length_map]; lia), ← List.map_take, show 2 * p - 1 - 1 = 2 * p - 2 by lia]
  have esm : ((2 * p - 1 : Nat) : Int) - 1 = ((2 * p - 1 - 1 : Nat) : Int) := by lia
  obtain ⟨As, hAs⟩ : ∃ As, As = lawA N p O := ⟨_, rfl⟩
  have hAl : As.length = 2 * p - 2 := by rw [hAs, lawA, List.length_map, List.length_take]; lia
  have eA : (((Oi.take (2 * p - 2)).map D.int).filter fun _ => true).map (fun d => D.int (lawG N p (keyI d).toNat)) = As.map D.int := by
    rw [filter_tt, hAs, hOi, ← List.map_take, List.map_map, List.map_map, lawA, List.map_map]
    rfl
  refine x_assign F₉ rm' ((ev_listcomp (q := fun _ => true) (g := fun d => D.int (lawG N p (keyI d).toNat)) [(Str.ofString "numbers", .list (N.map D.int)), (Str.ofString "p", .int p)] (clOf _ _) hE ((ev_slice (a := none) (b := some ((2 * p - 1 - 1 : Nat) : Int)) (c := none) (.inl rfl) (ev_name rfl) ?h1 ?h2 ?h3 (by decide) (by rw [List.length_map]; lia)).eq (congrArg D.list eA0)) (goes_name it_list) ⟨rfl, rfl, trivial⟩ ⟨⟨⟨.inl rfl, .inr rfl, rfl, rfl, rfl⟩, ⟨.inl rfl, .inr rfl, rfl, rfl, rfl⟩, trivial⟩, closure_ok rfl, rfl, by decide, by decide, by rw [List.length_map, List.length_take]; lia, fun d => [(Str.ofString "i", d)], fun L => tgt_name (.inl rfl), fun d' hd' L X => tst_nil, fun d' hd' _ L' X => ?el, fun d' _ => keep_name rfl⟩).eq (congrArg D.list eA)) (.inr ⟨rfl, _, rfl⟩) fun s₁₀ F₁₀ => ?_
  case el =>
    obtain ⟨z, hz, rfl⟩ := List.mem_map.mp hd'
    obtain ⟨z0, z1⟩ := hOib z (List.mem_of_mem_take hz)
    exact ev_binop (ev_sub (ev_name rfl) (ev_name rfl) (sub_list z0 (by lia) (int_list (by lia)))) (ev_name rfl) (b_mod (by lia))
  case h1 => exact rfl
  case h2 => exact ⟨_, rfl, esm ▸ ev_binop (ev_name rfl) ev_int b_sub⟩
  case h3 => exact rfl
  obtain ⟨LL, hLL⟩ : ∃ LL : List Int, LL = (List.range p).map (lessN As) := ⟨_, rfl⟩
  have hLLl : LL.length = p := by rw [hLL, List.length_map, List.length_range]
  have eL : (((List.range p).map fun i : Nat => D.int (i : Int)).filter fun _ => true).map (fun d => D.int (lessN As (keyI d).toNat)) = LL.map D.int := by
    rw [filter_tt, hLL, List.map_map, List.map_map]
    rfl
  have el1 : ∀ z : Nat, ((((As.map D.int).filter fun d => decide (keyI d < (z : Int))).map fun d => d).length : Int) = lessN As (keyI (D.int (z : Int))).toNat := fun z => by
    rw [List.length_map, List.filter_map, List.length_map]
    rfl
  refine x_assign F₁₀ rm' ((ev_listcomp (q := fun _ => true) (g := fun d => D.int (lessN As (keyI d).toNat)) [(Str.ofString "ahead", .list (As.map D.int))] (clOf _ _) hE (ev_range (n := (p : Int)) hE rfl (ev_name rfl)) (goes_name (it_upto (by lia))) ⟨rfl, trivial⟩ ⟨⟨⟨.inl rfl, .inr rfl, rfl, rfl, rfl⟩, trivial⟩, closure_ok rfl, rfl, by decide, by decide, by simp; lia, fun d => [(Str.ofString "rest", d)], fun L => tgt_name (.inr ⟨rfl, _, rfl⟩), fun d' hd' L X => tst_nil, fun d' hd' _ L' X => ?el, fun d' _ => keep_name rfl⟩).eq (congrArg D.list eL)) (.inr ⟨rfl, _, rfl⟩) fun s₁₁ F₁₁ => ?_
  case el =>
    obtain ⟨z, hz, rfl⟩ := List.mem_map.mp hd'
    refine Ev.eq (ev_call (ev_builtin (cEnvF hE rfl) rfl rfl bb_len) (evl_cons (ev_listcomp (q := fun d => decide (keyI d < (z : Int))) (g := fun d => d) [(Str.ofString "rest", .int (z : Int))] (clOf _ _) (cEnvF hE rfl) (ev_name rfl) (goes_name it_list) ⟨rfl, trivial⟩ ⟨⟨⟨.inl rfl, .inr rfl, rfl, rfl, rfl⟩, trivial⟩, closure_ok rfl, rfl, by decide, by decide, by rw [List.length_map]; lia, fun d => [(Str.ofString "one", d)], fun L => tgt_name (.inl rfl), fun d' hd' L X => ?t1, fun d' hd' _ L' X => ?e1, fun d' _ => keep_name rfl⟩) evl_nil) kp_builtin (f_len ?z1)) (congrArg D.int (el1 z))
    case t1 =>
      obtain ⟨y, _, rfl⟩ := List.mem_map.mp hd'
      exact tst_one (evb_compare (ev_name rfl) (ev_name rfl) c_lt)
    case e1 => exact ev_name rfl
    case z1 =>
      rw [List.length_map]
      have := List.length_filter_le (fun d => decide (keyI d < (z : Int))) (As.map D.int)
      rw [List.length_map] at this
      lia
  have hLs2 : (Ls.map (·.1)).Pairwise (· ≤ ·) := by rw [hLs]; exact lst_sorted _ _
  have i4 := ends_ok (C := C) (k := k + 189) (l := Ls) (p := p) (by lia) (by lia) (by lia) (by lia) hLs2
  obtain ⟨Es, hEs⟩ : ∃ Es, Es = lawE N p := ⟨_, rfl⟩
  have eE0 : (List.range p).map (endOf Ls (2 * p - 2)) = Es := by rw [hEs, hLs]; rfl
  rw [eE0] at i4
  have hEl : Es.length = p := by rw [← eE0, List.length_map, List.length_range]
  refine x_assign F₁₁ rm' (ev_call (ev_global hE rfl rfl) (evl_cons (ev_name rfl) (evl_cons (ev_name rfl) evl_nil)) (kp_fn rfl) i4) (.inl rfl) fun s₁₂ F₁₂ => ?_
  have eE : (((List.range p).map fun i : Nat => D.int (i : Int)).filter fun _ => true).map (fun d => tupD (lessN As (keyI d).toNat, lessN As (keyI d).toNat + ((As.count (keyI d) : Nat) : Int))) = Es.map tupD := by
    rw [filter_tt, hEs, M.ends, List.map_map, List.map_map, ← hAs]
    rfl
  refine x_if_no F₁₂ rm' (evb_compare (ev_name rfl) ((ev_listcomp (q := fun _ => true) (g := fun d => tupD (lessN As (keyI d).toNat, lessN As (keyI d).toNat + ((As.count (keyI d) : Nat) : Int))) [(Str.ofString "less", .list (LL.map D.int)), (Str.ofString "ahead", .list (As.map D.int))] (clOf _ _) hE (ev_range (n := (p : Int)) hE rfl (ev_name rfl)) (goes_name (it_upto (by lia))) ⟨rfl, rfl, trivial⟩ ⟨⟨⟨.inl rfl, .inr rfl, rfl, rfl, rfl⟩, ⟨.inl rfl, .inr rfl, rfl, rfl, rfl⟩, trivial⟩, closure_ok rfl, rfl, by decide, by decide, by simp; lia, fun d => [(Str.ofString "rest", d)], fun L => tgt_name (.inl rfl), fun d' hd' L X => tst_nil, fun d' hd' _ L' X => ?el, fun d' _ => keep_name rfl⟩).eq (congrArg D.list eE)) (c_ne_same (n := 5) (.list (py_pairs Es)) (by decide))) fun s₁₃ F₁₃ => ?_
  case el =>
    obtain ⟨z, hz, rfl⟩ := List.mem_map.mp hd'
    have hz' := List.mem_range.mp hz
    have hat : (LL.map D.int)[((z : Int)).toNat]? = some (.int (lessN As (keyI (D.int (z : Int))).toNat)) := by
      rw [Int.toNat_natCast, hLL, List.getElem?_map, List.getElem?_map, List.getElem?_range hz']
      rfl
    exact ev_tuple (evl_cons (ev_sub (ev_name rfl) (ev_name rfl) (sub_list (by lia) (by lia) hat)) (evl_cons (ev_binop (ev_sub (ev_name rfl) (ev_name rfl) (sub_list (by lia) (by lia) hat)) (ev_count (ev_name rfl) (evl_cons (ev_name rfl) evl_nil)) b_add) evl_nil))
  have i5 := all_sums_ok (C := C) (k := k + 198) (l := N) (p := p) (by lia)
  obtain ⟨S, hS⟩ : ∃ S, S = sumsOf p N := ⟨_, rfl⟩
  have hSl : S.length ≤ 512 := by
    rw [hS]
    unfold sumsOf
    rw [List.length_map]
    exact Nat.le_trans (List.length_filter_le _ _) (choices_len (by lia))
  rw [← hS] at i5
  refine x_assign F₁₃ rm' (ev_call (ev_global hE rfl rfl) (evl_cons (ev_name rfl) (evl_cons (ev_name rfl) evl_nil)) (kp_fn rfl) i5) (.inl rfl) fun s₁₄ F₁₄ => ?_
  have i6 := of_all_ok (C := C) (k := k + 195) (r := R) (p := p) (by lia) (by lia)
  obtain ⟨T, hT⟩ : ∃ T, T = tabC p R p := ⟨_, rfl⟩
  have hTl : T.length ≤ p := by rw [hT]; exact tabC_len (by lia) _ _
  rw [← hT] at i6
  refine x_assign F₁₄ rm' (ev_call (ev_global hE rfl rfl) (evl_cons (ev_name rfl) (evl_cons (ev_name rfl) evl_nil)) (kp_fn rfl) i6) (.inr ⟨rfl, _, rfl⟩) fun s₁₅ F₁₅ => ?_
  have eT : T = tal (S.map fun x => x.fmod p) := by rw [hT, hR, hS]; exact M.tab
  have i7 := told_ok (C := C) (k := k + 198) (l := S) (p := p) (by lia) (by lia)
  rw [← eT] at i7
  have cc : ((T.map (·.2)).sum != (((S.map D.int).length : Nat) : Int)) = false := by rw [eT, tal_sum, List.length_map, List.length_map]; simp
  refine x_if_no F₁₅ rm' (evb_or (a := false) (b := false) (evb_compare (ev_listItems hE rfl (ev_name rfl) (by lia)) (ev_call (ev_global hE rfl rfl) (evl_cons (ev_name rfl) (evl_cons (ev_name rfl) evl_nil)) (kp_fn rfl) i7) (c_ne_same (n := 5) (.list (py_pairs T)) (by decide)))
    fun _ => (evb_compare (ev_call (ev_global hE rfl rfl) (evl_cons (ev_name rfl) evl_nil) (kp_fn rfl) (count_calls_ok (k := k + 198) (kvs := T))) (ev_len hE rfl (ev_name rfl) (by rw [List.length_map]; lia)) c_ne).eq cc) fun s₁₆ F₁₆ => ?_
  obtain ⟨VL, hVL⟩ : ∃ VL : List Int, VL = (List.range p).map fun r : Nat => (gv T (r : Int)).fmod p := ⟨_, rfl⟩
  have eV : (((List.range p).map fun i : Nat => D.int (i : Int)).filter fun _ => true).map (fun d => D.int ((gv T (keyI d)).fmod p)) = VL.map D.int := by
    rw [filter_tt, hVL, List.map_map, List.map_map]
    rfl
  have eV2 : [D.int 1] ++ List.replicate ((p : Int) - 1).toNat (D.int 0) = VL.map D.int := by
    have : VL = [1] ++ List.replicate (p - 1) 0 := by rw [hVL, hT, hR]; exact M.egz
    rw [this, List.map_append, List.map_replicate, show ((p : Int) - 1).toNat = p - 1 by lia]
    rfl
  refine x_if_no F₁₆ rm' (evb_compare ((ev_listcomp (q := fun _ => true) (g := fun d => D.int ((gv T (keyI d)).fmod p)) [(Str.ofString "table", .dict T), (Str.ofString "p", .int p)] (clOf _ _) hE (ev_range (n := (p : Int)) hE rfl (ev_name rfl)) (goes_name (it_upto (by lia))) ⟨rfl, rfl, trivial⟩ ⟨⟨⟨.inl rfl, .inr rfl, rfl, rfl, rfl⟩, ⟨.inl rfl, .inr rfl, rfl, rfl, rfl⟩, trivial⟩, closure_ok rfl, rfl, by decide, by decide, by simp; lia, fun d => [(Str.ofString "rest", d)], fun L => tgt_name (.inl rfl), fun d' hd' L X => tst_nil, fun d' hd' _ L' X => ?el, fun d' _ => keep_name rfl⟩).eq (congrArg D.list eV))
    ((ev_binop (ev_list (evl_cons ev_int evl_nil)) (ev_binop (ev_list (evl_cons ev_int evl_nil)) (ev_binop (ev_name rfl) ev_int b_sub) (b_mulList (by lia) (by lia))) (b_addList ?zz)).eq (congrArg D.list eV2)) (c_ne_same (n := 5) (.list (py_ints VL)) (by decide))) fun s₁₇ F₁₇ => ?_
  case el =>
    obtain ⟨z, hz, rfl⟩ := List.mem_map.mp hd'
    exact ev_binop (ev_dget (ev_name rfl) (evl_cons (ev_name rfl) (evl_cons ev_int evl_nil))) (ev_name rfl) (b_mod (by lia))
  case zz => rw [List.length_replicate]; simp; lia
  have hLr : ∀ q ∈ Ls, 0 ≤ q.1 ∧ q.1 < (p : Int) := fun q hq => by
    rw [hLs, M.rows] at hq
    obtain ⟨i, _, rfl⟩ := List.mem_map.mp hq
    exact fmod_bd (by lia) _
  have i8 := along_ok (C := C) (k := k + 196) (l := Ls) (p := p) (by lia) (by lia) hLl hLr
  obtain ⟨AT, hAT⟩ : ∃ AT, AT = alTab (lawF N p) p (p - 1) := ⟨_, rfl⟩
  have eAT0 : alTab (fun i => (Ls.getD i (0, 0)).1) p (p - 1) = AT := by rw [hAT, hLs]; rfl
  rw [eAT0] at i8
  have hATl : AT.length ≤ p := by rw [hAT]; exact alTab_len _ (by lia) _
  refine x_assign F₁₇ rm' (ev_call (ev_global hE rfl rfl) (evl_cons (ev_name rfl) (evl_cons (ev_name rfl) evl_nil)) (kp_fn rfl) i8) (.inl rfl) fun s₁₈ F₁₈ => ?_
  have i9 := sums_along_ok (C := C) (k := k + 198) (l := N) (o := Oi) (p := p) (by lia) h5 hOil hOib (by lia)
  obtain ⟨U, hU⟩ : ∃ U, U = alSums (lawH N p O) p (p - 1) := ⟨_, rfl⟩
  have eU : alSums (fun i => N.getD (Oi.getD i 0).toNat 0) p (p - 1) = U := by
    rw [hU, hOi]
    congr 1
    funext i
    rw [cast_getD]
    rfl
  rw [eU] at i9
  have hUl : U.length = 2 ^ (p - 1) := by rw [hU]; exact alSums_len _ _ _
  have hU16 : U.length ≤ 2 ^ 5 := by rw [hUl]; exact Nat.pow_le_pow_right (by decide) (by lia)
  have eAT : AT = tal (U.map fun x => x.fmod p) := by rw [hAT, hU]; exact M.along
  have i10 := told_ok (C := C) (k := k + 198) (l := U) (p := p) (by lia) (by lia)
  rw [← eAT] at i10
  have epw : ((p : Int) - 1).toNat = p - 1 := by lia
  have cc2 : ((AT.map (·.2)).sum != (2 : Int) ^ ((p : Int) - 1).toNat) = false := by rw [eAT, tal_sum, List.length_map, hUl, epw]; simp
  refine x_if_no F₁₈ rm' (evb_or (a := false) (b := false) (evb_compare (ev_listItems hE rfl (ev_name rfl) (by lia)) (ev_call (ev_global hE rfl rfl) (evl_cons (ev_call (ev_global hE rfl rfl) (evl_cons (ev_name rfl) (evl_cons (ev_name rfl) (evl_cons (ev_name rfl) evl_nil))) (kp_fn rfl) i9) (evl_cons (ev_name rfl) evl_nil)) (kp_fn rfl) i10) (c_ne_same (n := 5) (.list (py_pairs AT)) (by decide)))
    fun _ => (evb_compare (ev_call (ev_global hE rfl rfl) (evl_cons (ev_name rfl) evl_nil) (kp_fn rfl) (count_calls_ok (k := k + 198) (kvs := AT))) (ev_binop ev_int (ev_binop (ev_name rfl) ev_int b_sub) (b_pow (by lia) (by lia) (by decide))) c_ne).eq cc2) fun s₁₉ F₁₉ => ?_
  obtain ⟨KL, hKL⟩ : ∃ KL : List Int, KL = (lawK N p).map fun i : Nat => (i : Int) := ⟨_, rfl⟩
  have e1p : (p : Int) - 1 = ((p - 1 : Nat) : Int) := by lia
  have eK : (((List.range (p - 1)).map fun i : Nat => D.int (i : Int)).filter fun d => lawF N p (keyI d).toNat == lawF N p ((keyI d).toNat + p - 1)).map (fun d => d) = KL.map D.int := by
    rw [List.map_id', List.filter_map, hKL, List.map_map]
    rfl
  have hrow : ∀ i, i < 2 * p - 1 → (Ls.map tupD)[((i : Nat) : Int).toNat]? = some (.tup [.int (lawF N p i), .int (Ls.getD i (0, 0)).2]) := fun i hi => by
    rw [Int.toNat_natCast, tup_list (by lia), hLs]; rfl
  refine x_assignComp (q := fun d => lawF N p (keyI d).toNat == lawF N p ((keyI d).toNat + p - 1)) (g := fun d => d) [(Str.ofString "listing", .list (Ls.map tupD)), (Str.ofString "p", .int p)] (clOf _ _) F₁₉ rm' (ev_range (n := ((p - 1 : Nat) : Int)) hE rfl (e1p ▸ ev_binop (ev_name rfl) ev_int b_sub)) (goes_name (it_upto (by lia))) ⟨rfl, rfl, trivial⟩ ⟨⟨⟨.inl rfl, .inr rfl, rfl, rfl, rfl⟩, ⟨.inl rfl, .inr rfl, rfl, rfl, rfl⟩, trivial⟩, closure_ok rfl, rfl, by decide, by decide, by simp; lia, fun d => [(Str.ofString "k", d)], fun L => tgt_name (.inl rfl), fun d' hd' L X => ?tst, fun d' hd' _ L' X => ev_name rfl, fun d' _ => keep_name rfl⟩ (.inl rfl) fun s₂₀ F₂₀ => ?_
  case tst =>
    obtain ⟨z, hz, rfl⟩ := List.mem_map.mp hd'
    have hz' := List.mem_range.mp hz
    have ez : (z : Int) + (p : Int) - 1 = ((z + p - 1 : Nat) : Int) := by lia
    exact tst_one (evb_compare (ev_sub (ev_sub (ev_name rfl) (ev_name rfl) (sub_list (by lia) (by lia) (hrow z (by lia)))) ev_int (sub_tup (by decide) (by decide) rfl)) (ev_sub (ev_sub (ev_name rfl) (ez ▸ ev_binop (ev_binop (ev_name rfl) (ev_name rfl) b_add) ev_int b_sub) (sub_list (by lia) (by lia) (hrow (z + p - 1) (by lia)))) ev_int (sub_tup (by decide) (by decide) rfl)) c_eq)
  rw [eK] at F₂₀
  obtain ⟨DL, hDL⟩ : ∃ DL : List Int, DL = Es.map fun q => q.2 - q.1 := ⟨_, rfl⟩
  have eD : ((Es.map tupD).filter fun _ => true).map (fun d => D.int (sndI d - fstI d)) = DL.map D.int := by
    rw [filter_tt, hDL, List.map_map, List.map_map]
    rfl
  have hpair : ∀ d ∈ Es.map tupD, ∃ a c, d = .tup [.int a, .int c] := fun d hd => by
    obtain ⟨q, _, rfl⟩ := List.mem_map.mp hd; exact ⟨_, _, rfl⟩
  have hpair' : ∀ d ∈ Es.map tupD, ∃ a c, d = .tup [a, c] := fun d hd => let ⟨a, c, e⟩ := hpair d hd; ⟨_, _, e⟩
  have hKe : (!KL.isEmpty) = decide ((p : Int) ≤ m) := by
    have h1 := M.alike
    have h2 : KL.isEmpty = (lawK N p).isEmpty := by rw [hKL]; cases lawK N p <;> rfl
    rw [h2, h1, Bool.not_not]
  have cb : ((!KL.isEmpty) != decide ((p : Int) ≤ m)) = false := by rw [hKe]; cases decide ((p : Int) ≤ m) <;> rfl
  refine x_if_no F₂₀ rm' ((evb_compare (ev_compare (ev_name rfl) (ev_list evl_nil) c_neNil) (ev_compare (ev_call (ev_builtin hE rfl rfl bb_max) (evl_cons ((ev_listcomp (q := fun _ => true) (g := fun d => D.int (sndI d - fstI d)) [] (clOf _ _) hE (ev_name rfl) (goes_list hpair') trivial ⟨trivial, closure_ok rfl, rfl, by decide, by decide, by rw [List.length_map]; lia, nm2 _ _, fun L => tgt_pair (.inl rfl) (.inl rfl) hpair', fun d' hd' L X => tst_nil, fun d' hd' _ L' X => ?el, fun d' _ y d hh => nomatch hh⟩).eq (congrArg D.list eD)) evl_nil) kp_builtin (f_max (m := m) (by rw [hDL, hEs]; exact M.max_mem) (by rw [hDL, hEs]; exact M.max_le))) (ev_name rfl) c_ge) c_neB).eq cb) fun s₂₁ F₂₁ => ?_
  case el =>
    obtain ⟨a, c, rfl⟩ := hpair d' hd'
    exact ev_binop (ev_name rfl) (ev_name rfl) b_sub
  obtain ⟨PL, hPL⟩ : ∃ PL : List Int, PL = (List.range p).map fun i : Nat => (i : Int) := ⟨_, rfl⟩
  have eP : ((List.range p).map fun i : Nat => D.int (0 + (i : Int) * 1)) = PL.map D.int := by
    rw [hPL, List.map_map]
    refine List.map_congr_left fun i _ => ?_
    simp
  have hPs : PL.Pairwise (· ≤ ·) := by
    rw [hPL, List.pairwise_map]
    exact List.pairwise_le_range.imp fun h => by lia
  refine x_return F₂₁ rm' (ev_orB (b := true) (ev_compare (ev_name rfl) (ev_list evl_nil) c_neNil) fun hc => ev_compare (ev_call (ev_builtin hE rfl rfl bb_sorted) (evl_cons (ev_name rfl) evl_nil) kp_builtin (f_sortedD (k := k + 198) (o := PL) (by lia) ?perm hPs)) ((ev_call (ev_builtin hE rfl rfl bb_list) (evl_cons (ev_range (n := (p : Int)) hE rfl (ev_name rfl)) evl_nil) kp_type (f_listRange p (rng_small (by lia)).1 (rng_small (by lia)).2 (by lia))).eq (congrArg D.list eP)) (c_eq_same (n := 5) (.list (py_ints PL)) (by decide))) fun v' s' F' r => ?_
  case perm =>
    rw [hPL, hAT]
    refine M.full ?_
    have h2 : KL.isEmpty = (lawK N p).isEmpty := by rw [hKL]; cases lawK N p <;> rfl
    rw [← h2]
    cases h3 : KL.isEmpty with
    | true => rfl
    | false => rw [h3] at hc; cases hc
  rw [Bool.or_true] at r
  cases r
  obtain ⟨v, h', tk, q1, rfl, q3, q4, q5⟩ := F'.ret (.bool true)
  exact ret h' tk q3 q4
end
end Mine

open PySem PySem.W PyProof.Rows PySem.Spec PySem.Calls
set_option Elab.async false
set_option linter.unusedVariables false
namespace Mine

/- the listing -/
theorem insAt_perm (l : List (Int × Int)) (q : Int × Int) : (insAt l q).Perm (q :: l) := by
  unfold insAt
  refine List.perm_middle.trans ?_
  rw [List.take_append_drop]
noncomputable def Lex (a b : Int × Int) : Prop := a.1 < b.1 ∨ (a.1 = b.1 ∧ a.2 < b.2)
structure LstOk (R : List Int) (i : Nat) (l : List (Int × Int)) : Prop where
  mem : ∀ q ∈ l, 0 ≤ q.2 ∧ q.2 < i ∧ q.1 = R.getD q.2.toNat 0
  perm : (l.map fun q => q.2.toNat).Perm (List.range i)
  sort : l.Pairwise Lex
theorem insAt_lex {l : List (Int × Int)} {q : Int × Int} (h : l.Pairwise Lex) (hs : (l.map (·.1)).Pairwise (· ≤ ·)) (hq : ∀ z ∈ l, z.2 < q.2) : (insAt l q).Pairwise Lex := by
  obtain ⟨h1, h2⟩ := sorted_cut (l.map (·.1)) q.1 hs
  unfold insAt
  generalize (l.map (·.1)).countP (fun y => decide (y ≤ q.1)) = n at *
  rw [← List.map_take] at h1
  rw [← List.map_drop] at h2
  have b1 : ∀ z ∈ l.take n, Lex z q := fun z hz => by
    have e1 := h1 z.1 (List.mem_map.mpr ⟨z, hz, rfl⟩)
    have e2 := hq z (List.mem_of_mem_take hz)
    unfold Lex
    clear h1 h2
    lia
  have b2 : ∀ z ∈ l.drop n, Lex q z := fun z hz => .inl (h2 z.1 (List.mem_map.mpr ⟨z, hz, rfl⟩))
  rw [List.pairwise_append, List.pairwise_cons]
  refine ⟨h.sublist (List.take_sublist _ _), ⟨b2, h.sublist (List.drop_sublist _ _)⟩, fun a ha b hb => ?_⟩
  rcases List.mem_cons.mp hb with rfl | hb
  · exact b1 a ha
  · have x := b1 a ha
    have y := b2 b hb
    clear h1 h2 b1 b2
    unfold Lex at *
    lia
theorem lst_ok (R : List Int) : ∀ i, LstOk R i (lst R i)
  | 0 => ⟨fun q hq => (nomatch hq), .nil, .nil⟩
  | i + 1 => by
    have h := lst_ok R i
    have hp := insAt_perm (lst R i) (R.getD i 0, (i : Int))
    refine ⟨fun q hq => ?_, ?_, insAt_lex h.sort (lst_sorted R i) fun z hz => (h.mem z hz).2.1⟩
    · rcases List.mem_cons.mp (hp.mem_iff.mp hq) with rfl | hq
      · exact ⟨by lia, by lia, by rw [Int.toNat_natCast]⟩
      · obtain ⟨a, b, c⟩ := h.mem q hq
        exact ⟨a, by lia, c⟩
    · refine (hp.map _).trans ?_
      rw [List.map_cons, Int.toNat_natCast, List.range_succ]
      exact (h.perm.cons i).trans (List.perm_append_singleton i (List.range i)).symm

theorem lawR_at (N : List Int) (p i : Nat) : (lawR N p).getD i 0 = lawG N p i := by
  unfold lawR lawG
  rw [List.getD_eq_getElem?_getD, List.getD_eq_getElem?_getD, List.getElem?_map]
  cases N[i]? with
  | none => simp
  | some x => rfl

noncomputable def ordO (N : List Int) (p : Nat) : List Nat := (lawL N p).map fun q => q.2.toNat

theorem rows_ok (N : List Int) (p : Nat) : lawL N p = (ordO N p).map fun i : Nat => (lawG N p i, (i : Int)) := by
  unfold ordO
  rw [List.map_map]
  conv => lhs; rw [← List.map_id (lawL N p)]
  refine List.map_congr_left fun q hq => ?_
  obtain ⟨a, b, c⟩ := (lst_ok (lawR N p) (2 * p - 1)).mem q hq
  simp only [Function.comp, id]
  rw [← lawR_at, ← c]
  exact Prod.ext rfl (by show q.2 = ((q.2.toNat : Nat) : Int); lia)
theorem perm_ok (N : List Int) (p : Nat) : (ordO N p).Perm (List.range (2 * p - 1)) := (lst_ok (lawR N p) (2 * p - 1)).perm
theorem sort_ok2 (N : List Int) (p : Nat) : (ordO N p).Pairwise (Rk (lawG N p)) := by
  have h := (lst_ok (lawR N p) (2 * p - 1)).sort
  have e : lawL N p = lst (lawR N p) (2 * p - 1) := rfl
  rw [← e, rows_ok N p, List.pairwise_map] at h
  refine h.imp fun {a b} h => ?_
  unfold Lex at h
  unfold Rk
  lia

theorem count_le (l : List Int) (r : Int) : l.countP (fun y => decide (y ≤ r)) = l.countP (fun y => decide (y < r)) + l.count r := by
  induction l with
  | nil => rfl
  | cons x l ih =>
    rw [List.countP_cons, List.countP_cons, List.count_cons, ih]
    clear ih
    by_cases h1 : x < r
    · have h2 : x ≤ r := by lia
      have h3 : ¬ x = r := by lia
      simp [h1, h2, h3]
      lia
    · by_cases h3 : x = r
      · subst h3
        simp
        lia
      · have h2 : ¬ x ≤ r := by lia
        simp [h1, h2, h3]
theorem ahead_eq (N : List Int) (p : Nat) : ((lawL N p).take (2 * p - 2)).map (·.1) = lawA N p (ordO N p) := by
  conv => lhs; rw [rows_ok N p]
  rw [← List.map_take, List.map_map]
  rfl
theorem ends_ok2 (N : List Int) (p : Nat) : lawE N p = (List.range p).map fun r : Nat => (lessN (lawA N p (ordO N p)) r, lessN (lawA N p (ordO N p)) r + (((lawA N p (ordO N p)).count (r : Int) : Nat) : Int)) := by
  unfold lawE
  refine List.map_congr_left fun r _ => ?_
  unfold endOf lessN
  rw [ahead_eq, count_le, List.countP_eq_length_filter]
  simp

/- the tables -/
noncomputable def stepH (p : Nat) (acc : List (Int × Int)) (x : Int) : List (Int × Int) := acc ++ (acc.filter fun q => decide (q.1 < (p : Int))).map fun q => (q.1 + 1, (q.2 + x).fmod p)
noncomputable def modP (p : Nat) (q : Int × Int) : Int × Int := (q.1, q.2.fmod p)
theorem fmod_add_r {p : Nat} (x y : Int) : (x + y.fmod p).fmod p = (x + y).fmod p := by rw [Int.add_comm, fmod_add, Int.add_comm]
theorem step_mod (p : Nat) (acc : List (Int × Int)) (x : Int) : (stepC p acc x).map (modP p) = stepH p (acc.map (modP p)) x := by
  unfold stepC stepH
  rw [List.map_append, List.map_map, List.filter_map, List.map_map]
  congr 1
  refine List.map_congr_left fun q _ => ?_
  simp only [Function.comp, modP]
  rw [fmod_add]
theorem fold_mod (p : Nat) : ∀ (l : List Int) (acc : List (Int × Int)), (l.foldl (stepC p) acc).map (modP p) = l.foldl (stepH p) (acc.map (modP p))
  | [], _ => rfl
  | x :: l, acc => by rw [List.foldl_cons, List.foldl_cons, fold_mod p l, step_mod]
theorem fold_rests (p : Nat) : ∀ (l : List Int) (acc : List (Int × Int)), (l.map fun x => x.fmod p).foldl (stepH p) acc = l.foldl (stepH p) acc
  | [], _ => rfl
  | x :: l, acc => by
    rw [List.map_cons, List.foldl_cons, List.foldl_cons, fold_rests p l]
    congr 1
    unfold stepH
    congr 1
    refine List.map_congr_left fun q _ => ?_
    rw [fmod_add_r]
theorem sel_mod (p : Nat) (l : List Int) (m : Int) : (selC p (l.map fun x => x.fmod p) m).map (fun x => x.fmod p) = (selC p l m).map fun x => x.fmod p := by
  have key : ∀ l : List Int, (selC p l m).map (fun x => x.fmod p) = (((choices p l).map (modP p)).filter fun q => q.1 == m).map (·.2) := fun l => by
    unfold selC
    rw [List.filter_map, List.map_map, List.map_map]
    rfl
  rw [key, key]
  unfold choices
  rw [fold_mod, fold_mod, fold_rests]
theorem tab_ok (N : List Int) (p : Nat) : tabC p (lawR N p) p = tal ((sumsOf p N).map fun x => x.fmod p) := by
  unfold tabC lawR
  rw [sel_mod]
  rfl
end Mine

open PySem PySem.W PyProof.Rows PySem.Spec PySem.Calls
set_option Elab.async false
set_option linter.unusedVariables false
namespace Mine

/-- of how many choices of m of the numbers the sum has the rest r -/
noncomputable def W (p : Nat) : List Nat → Nat → Nat → Nat
  | [], m, r => if m = 0 ∧ r = 0 then 1 else 0
  | _ :: l, 0, r => W p l 0 r
  | x :: l, m + 1, r => W p l (m + 1) r + W p l m ((r + p - x) % p)

noncomputable def rotD (p x row : Nat) : Nat := (row * 65536 ^ x) % 65536 ^ p + (row * 65536 ^ x) / 65536 ^ p
noncomputable def addL (p x : Nat) : Nat → List Nat → List Nat
  | _, [] => []
  | prev, r :: T => (r + rotD p x prev) :: addL p x r T
noncomputable def tabD (p : Nat) : List Nat → List Nat
  | [] => 1 :: List.replicate p 0
  | x :: l => addL p x 0 (tabD p l)

noncomputable def atN (b : List Nat) (k : Nat) : Nat := b.getD k 0
noncomputable def alikeN (p : Nat) (b : List Nat) : Bool := (List.range (p - 1)).any fun k => atN b k == atN b (k + p - 1)
noncomputable def manyN (p : Nat) (b : List Nat) : Bool := (List.range p).any fun r => Nat.ble p ((b.take (2 * p - 2)).count r)
noncomputable def sumsN (b : List Nat) (p : Nat) : Nat → List Nat
  | 0 => [atN b (2 * p - 2)]
  | i + 1 => (sumsN b p i).map (· + atN b i) ++ (sumsN b p i).map (· + atN b (i + p - 1))
noncomputable def testN (p : Nat) (b : List Nat) : Bool :=
  (alikeN p b == manyN p b) && (alikeN p b || (List.range p).all fun r => ((sumsN b p (p - 1)).map (· % p)).contains r) && (List.range p).all fun r => (tabD p b).getD p 0 / 65536 ^ r % 65536 % p == if r = 0 then 1 else 0
/-- all rows that are in order, the last first -/
noncomputable def chk (p : Nat) : Nat → Nat → List Nat → Bool
  | 0, _, acc => testN p acc
  | n + 1, hi, acc => chk p n 0 (0 :: acc) && (Nat.blt hi 1 || chk p n 1 (1 :: acc)) && (Nat.blt hi 2 || chk p n 2 (2 :: acc)) && (Nat.blt hi 3 || chk p n 3 (3 :: acc)) && (Nat.blt hi 4 || chk p n 4 (4 :: acc))

set_option maxRecDepth 100000 in
theorem chk3 : chk 3 5 2 [] = true := by decide +kernel
set_option maxRecDepth 100000 in
theorem chk5 : chk 5 9 4 [] = true := by decide +kernel
end Mine

open PySem PySem.W PyProof.Rows PySem.Spec PySem.Calls
set_option Elab.async false
set_option linter.unusedVariables false
namespace Mine

noncomputable def enc (f : Nat → Nat) : Nat → Nat
  | 0 => 0
  | p + 1 => enc f p + f p * 65536 ^ p
theorem enc_add (f g : Nat → Nat) : ∀ p, enc f p + enc g p = enc (fun r => f r + g r) p
  | 0 => rfl
  | p + 1 => by
    unfold enc
    rw [← enc_add f g p, Nat.add_mul]
    omega
theorem enc_zero : ∀ p, enc (fun _ => 0) p = 0
  | 0 => rfl
  | p + 1 => by unfold enc; rw [enc_zero p, Nat.zero_mul]

theorem dig3 {f : Nat → Nat} (h : ∀ r, f r < 65536) : ∀ r, r < 3 → enc f 3 / 65536 ^ r % 65536 = f r := by
  have h0 := h 0; have h1 := h 1; have h2 := h 2
  intro r hr
  match r, hr with
  | 0, _ => simp [enc]; omega
  | 1, _ => simp [enc]; omega
  | 2, _ => simp [enc]; omega
theorem dig5 {f : Nat → Nat} (h : ∀ r, f r < 65536) : ∀ r, r < 5 → enc f 5 / 65536 ^ r % 65536 = f r := by
  have h0 := h 0; have h1 := h 1; have h2 := h 2; have h3 := h 3; have h4 := h 4
  intro r hr
  match r, hr with
  | 0, _ => simp [enc]; omega
  | 1, _ => simp [enc]; omega
  | 2, _ => simp [enc]; omega
  | 3, _ => simp [enc]; omega
  | 4, _ => simp [enc]; omega
theorem rot3 {f : Nat → Nat} (h : ∀ r, f r < 65536) {x : Nat} (hx : x < 3) : rotD 3 x (enc f 3) = enc (fun r => f ((r + 3 - x) % 3)) 3 := by
  have h0 := h 0; have h1 := h 1; have h2 := h 2
  unfold rotD
  match x, hx with
  | 0, _ => simp [enc]; omega
  | 1, _ => simp [enc]; omega
  | 2, _ => simp [enc]; omega
theorem rot5 {f : Nat → Nat} (h : ∀ r, f r < 65536) {x : Nat} (hx : x < 5) : rotD 5 x (enc f 5) = enc (fun r => f ((r + 5 - x) % 5)) 5 := by
  have h0 := h 0; have h1 := h 1; have h2 := h 2; have h3 := h 3; have h4 := h 4
  unfold rotD
  match x, hx with
  | 0, _ => simp [enc]; omega
  | 1, _ => simp [enc]; omega
  | 2, _ => simp [enc]; omega
  | 3, _ => simp [enc]; omega
  | 4, _ => simp [enc]; omega

theorem W_le (p : Nat) : ∀ (l : List Nat) (m r : Nat), W p l m r ≤ 2 ^ l.length
  | [], m, r => by unfold W; split <;> simp
  | x :: l, 0, r => by
    have := W_le p l 0 r
    simp only [W, List.length_cons, Nat.pow_succ]
    omega
  | x :: l, m + 1, r => by
    have h1 := W_le p l (m + 1) r
    have h2 := W_le p l m ((r + p - x) % p)
    simp only [W, List.length_cons, Nat.pow_succ]
    omega

theorem addL_len (p x : Nat) : ∀ (T : List Nat) (prev : Nat), (addL p x prev T).length = T.length
  | [], _ => rfl
  | r :: T, prev => by unfold addL; rw [List.length_cons, List.length_cons, addL_len p x T]
theorem addL_at (p x : Nat) : ∀ (T : List Nat) (prev m : Nat), m < T.length → (addL p x prev T).getD m 0 = T.getD m 0 + rotD p x (if m = 0 then prev else T.getD (m - 1) 0)
  | [], _, _, h => by simp at h
  | r :: T, prev, 0, _ => rfl
  | r :: T, prev, m + 1, h => by
    have ih := addL_at p x T r m (by simpa using h)
    show (addL p x r T).getD m 0 = T.getD m 0 + _
    rw [ih]
    congr 2
    cases m <;> rfl

theorem tabD_ok {p : Nat} (hp : 1 ≤ p) (hb : enc (W p [] 0) p = 1) (hrot : ∀ (f : Nat → Nat), (∀ r, f r < 65536) → ∀ x, x < p → rotD p x (enc f p) = enc (fun r => f ((r + p - x) % p)) p) :
    ∀ l : List Nat, (∀ x ∈ l, x < p) → l.length ≤ 9 → (tabD p l).length = p + 1 ∧ ∀ m, m ≤ p → (tabD p l).getD m 0 = enc (W p l m) p
  | [], _, _ => by
    refine ⟨by simp [tabD], fun m hm => ?_⟩
    cases m with
    | zero => exact hb.symm
    | succ m =>
      have : W p [] (m + 1) = fun _ => 0 := by funext r; simp [W]
      rw [this, enc_zero]
      unfold tabD
      rw [List.getD_cons_succ, List.getD_eq_getElem?_getD, List.getElem?_replicate]
      split <;> rfl
  | x :: l, h, hz => by
    obtain ⟨h1, h2⟩ := tabD_ok hp hb hrot l (fun y hy => h y (List.mem_cons_of_mem _ hy)) (by simp at hz; omega)
    refine ⟨by unfold tabD; rw [addL_len, h1], fun m hm => ?_⟩
    unfold tabD
    rw [addL_at p x _ 0 m (by omega), h2 m hm]
    have hlt : ∀ m r, W p l m r < 65536 := fun m r => Nat.lt_of_le_of_lt (W_le p l m r) (by
      have : 2 ^ l.length ≤ 2 ^ 9 := Nat.pow_le_pow_right (by decide) (by simp at hz; omega)
      omega)
    cases m with
    | zero =>
      rw [if_pos rfl]
      have : rotD p x 0 = 0 := by unfold rotD; simp
      rw [this]
      rfl
    | succ m =>
      rw [if_neg (by omega), Nat.add_sub_cancel, h2 m (by omega), hrot _ (hlt m) x (h x (List.mem_cons_self ..)), enc_add]
      rfl

theorem W_perm {p : Nat} (hp : p = 3 ∨ p = 5) {l l' : List Nat} (h : l.Perm l') : (∀ x ∈ l, x < p) → ∀ m r, r < p → W p l m r = W p l' m r := by
  have pos : 0 < p := by omega
  induction h with
  | nil => intro _ m r _; rfl
  | cons x _ ih =>
    intro hb m r hr
    have ih' := ih fun y hy => hb y (List.mem_cons_of_mem _ hy)
    cases m with
    | zero => exact ih' 0 r hr
    | succ m =>
      show W p _ (m + 1) r + W p _ m _ = W p _ (m + 1) r + W p _ m _
      rw [ih' (m + 1) r hr, ih' m _ (Nat.mod_lt _ pos)]
  | swap x y l =>
    intro hb m r hr
    have hx := hb x (List.mem_cons_of_mem _ (List.mem_cons_self ..))
    have hy := hb y (List.mem_cons_self ..)
    have e : ((r + p - y) % p + p - x) % p = ((r + p - x) % p + p - y) % p := by
      clear hb
      rcases hp with rfl | rfl <;> omega
    match m with
    | 0 => rfl
    | 1 =>
      show W p l 1 r + W p l 0 _ + W p l 0 _ = W p l 1 r + W p l 0 _ + W p l 0 _
      omega
    | m + 2 =>
      show W p l (m + 2) r + W p l (m + 1) _ + (W p l (m + 1) _ + W p l m _) = W p l (m + 2) r + W p l (m + 1) _ + (W p l (m + 1) _ + W p l m _)
      rw [e]
      omega
  | trans h1 _ ih1 ih2 =>
    intro hb m r hr
    exact (ih1 hb m r hr).trans (ih2 (fun x hx => hb x (h1.mem_iff.mpr hx)) m r hr)

noncomputable def gN (p : Nat) (x : Int) : Nat := (x.fmod p).toNat
theorem shift_iff {p : Nat} (hp : p = 3 ∨ p = 5) (y x : Int) {r : Nat} (hr : r < p) : ((y + x).fmod p = (r : Int)) ↔ (y.fmod p = (((r + p - gN p x) % p : Nat) : Int)) := by
  unfold gN
  rw [Int.fmod_eq_emod_of_nonneg _ (by omega), Int.fmod_eq_emod_of_nonneg _ (by omega), Int.fmod_eq_emod_of_nonneg _ (by omega)]
  rcases hp with rfl | rfl <;> omega
theorem count_shift {p : Nat} (hp : p = 3 ∨ p = 5) (x : Int) {r : Nat} (hr : r < p) : ∀ L : List Int, ((L.map (· + x)).map fun y => y.fmod p).count (r : Int) = (L.map fun y => y.fmod p).count (((r + p - gN p x) % p : Nat) : Int)
  | [] => rfl
  | y :: L => by
    have ih := count_shift hp x hr L
    have e := shift_iff hp y x hr
    simp only [List.map_cons, List.count_cons, ih]
    congr 1
    by_cases h : (y + x).fmod p = (r : Int)
    · have h' := e.mp h
      rw [h, h']; simp
    · have h' := fun q => h (e.mpr q)
      rw [beq_eq_false_iff_ne.mpr h, beq_eq_false_iff_ne.mpr h']

theorem cnt_W {p : Nat} (hp : p = 3 ∨ p = 5) : ∀ (l : List Int) (m r : Nat), m ≤ p → r < p → ((selC p l.reverse m).map fun y => y.fmod p).count (r : Int) = W p (l.map (gN p)) m r
  | [], m, r, hm, hr => by
    show (((([((0 : Int), (0 : Int))] : List (Int × Int)).filter fun q => q.1 == (m : Int)).map (·.2)).map fun y => y.fmod p).count (r : Int) = if m = 0 ∧ r = 0 then 1 else 0
    by_cases h : m = 0
    · subst h
      by_cases h2 : r = 0
      · subst h2; simp
      · have : ¬ (0 : Int) = (r : Int) := by omega
        simp [h2, this]
    · have : ¬ (0 : Int) = (m : Int) := by omega
      simp [h, this]
  | x :: l, 0, r, hm, hr => by
    rw [List.reverse_cons, Int.natCast_zero, selC_zero]
    exact cnt_W hp l 0 r hm hr
  | x :: l, m + 1, r, hm, hr => by
    rw [List.reverse_cons, Int.natCast_succ, selC_succ _ _ (by omega), List.map_append, List.count_append, count_shift hp x hr, ← Int.natCast_succ, cnt_W hp l (m + 1) r hm hr, cnt_W hp l m _ (by omega) (Nat.mod_lt _ (by omega))]
    rfl
end Mine

open PySem PySem.W PyProof.Rows PySem.Spec PySem.Calls
set_option Elab.async false
set_option linter.unusedVariables false
set_option linter.unusedSectionVars false
namespace Mine

theorem chk_all (p : Nat) : ∀ (n hi : Nat) (acc pre : List Nat), chk p n hi acc = true → hi ≤ 4 → pre.length = n → pre.Pairwise (· ≤ ·) → (∀ x ∈ pre, x ≤ hi) → testN p (pre ++ acc) = true
  | 0, hi, acc, pre, h, _, hl, _, _ => by
    rw [List.length_eq_zero_iff.mp hl]; exact h
  | n + 1, hi, acc, pre, h, h4, hl, hs, hb => by
    obtain ⟨pre', x, rfl⟩ : ∃ pre' x, pre = pre' ++ [x] := ⟨pre.dropLast, pre.getLast (by intro q; rw [q] at hl; simp at hl), (List.dropLast_concat_getLast _).symm⟩
    rw [List.pairwise_append] at hs
    have hx := hb x (by simp)
    have step : chk p n x (x :: acc) = true := by
      unfold chk at h
      simp only [Bool.and_eq_true, Bool.or_eq_true] at h
      obtain ⟨⟨⟨⟨a0, a1⟩, a2⟩, a3⟩, a4⟩ := h
      have nb : ∀ k, k ≤ hi → ¬ Nat.blt hi k = true := fun k hk q => by
        have : hi + 1 ≤ k := by simpa [Nat.blt] using q
        lia
      match x, hx with
      | 0, _ => exact a0
      | 1, hx => exact a1.resolve_left (nb 1 hx)
      | 2, hx => exact a2.resolve_left (nb 2 hx)
      | 3, hx => exact a3.resolve_left (nb 3 hx)
      | 4, hx => exact a4.resolve_left (nb 4 hx)
      | x + 5, hx => lia
    have ih := chk_all p n x (x :: acc) pre' step (by lia) (by simpa using hl) hs.1 fun y hy => hs.2.2 y hy x (by simp)
    rw [List.append_assoc]
    exact ih

/-- the listing's rests -/
noncomputable def lawB (N : List Int) (p : Nat) : List Nat := (lawL N p).map fun q => q.1.toNat

section
variable {N : List Int} {p : Nat} (hp : p = 3 ∨ p = 5) (hN : N.length = 2 * p - 1)
include hp
theorem lawL_bd : ∀ q ∈ lawL N p, 0 ≤ q.1 ∧ q.1 < (p : Int) := fun q hq => by
  rw [rows_ok] at hq
  obtain ⟨i, _, rfl⟩ := List.mem_map.mp hq
  exact fmod_bd (by lia) _
theorem lawB_bd : ∀ x ∈ lawB N p, x < p := fun x hx => by
  obtain ⟨q, hq, rfl⟩ := List.mem_map.mp hx
  have := lawL_bd hp q hq
  lia
theorem lawB_sort : (lawB N p).Pairwise (· ≤ ·) := by
  unfold lawB
  rw [List.pairwise_map]
  have h := lst_sorted (lawR N p) (2 * p - 1)
  rw [List.pairwise_map] at h
  exact h.imp fun {a b} h => by lia
omit hp in
theorem lawB_len : (lawB N p).length = 2 * p - 1 := by unfold lawB; rw [List.length_map]; exact lst_len _ _
theorem lawF_nat (k : Nat) : lawF N p k = ((atN (lawB N p) k : Nat) : Int) := by
  unfold lawF atN lawB
  rw [List.getD_eq_getElem?_getD, List.getD_eq_getElem?_getD, List.getElem?_map]
  cases e : (lawL N p)[k]? with
  | none => rfl
  | some q =>
    have := lawL_bd hp q (List.mem_of_getElem? e)
    simp only [Option.getD_some, Option.map_some]
    lia
theorem law_test : testN p (lawB N p) = true := by
  have h := chk_all p (2 * p - 1) (p - 1) [] (lawB N p) (by
    rcases hp with rfl | rfl
    · exact chk3
    · exact chk5) (by lia) lawB_len (lawB_sort hp) fun x hx => by have := lawB_bd hp x hx; lia
  rwa [List.append_nil] at h
include hN
theorem lawB_perm : ((lawR N p).reverse.map (gN p)).Perm (lawB N p) := by
  have hR : (lawR N p).length = 2 * p - 1 := by unfold lawR; rw [List.length_map, hN]
  have e1 : lawB N p = ((lawL N p).map fun q => q.2.toNat).map fun i => gN p ((lawR N p).getD i 0) := by
    unfold lawB
    rw [List.map_map]
    refine List.map_congr_left fun q hq => ?_
    obtain ⟨_, _, c⟩ := (lst_ok (lawR N p) (2 * p - 1)).mem q hq
    have hb := lawL_bd hp q hq
    simp only [Function.comp]
    rw [← c]
    unfold gN
    rw [Int.fmod_eq_emod_of_nonneg _ (by lia), Int.emod_eq_of_lt hb.1 hb.2]
  have e2 : (List.range (2 * p - 1)).map (fun i => gN p ((lawR N p).getD i 0)) = (lawR N p).map (gN p) := by
    apply List.ext_getElem?
    intro i
    rw [List.getElem?_map, List.getElem?_map]
    by_cases hi : i < 2 * p - 1
    · rw [List.getElem?_range hi, List.getElem?_eq_getElem (show i < (lawR N p).length by lia)]
      simp [List.getD_eq_getElem?_getD, show i < (lawR N p).length by lia]
    · rw [List.getElem?_eq_none (by simpa using hi), List.getElem?_eq_none (by lia)]
      rfl
  rw [e1]
  refine List.Perm.trans ?_ ((perm_ok N p).map _).symm
  rw [e2]
  exact (List.reverse_perm _).map _

theorem egz_ok : (List.range p).map (fun r : Nat => (gv (tabC p (lawR N p) p) (r : Int)).fmod p) = [1] ++ List.replicate (p - 1) 0 := by
  have T := law_test (N := N) hp
  unfold testN at T
  simp only [Bool.and_eq_true, List.all_eq_true, List.mem_range] at T
  have t3 := T.2
  have hlen9 : (lawB N p).length ≤ 9 := by rw [lawB_len]; lia
  have hrow : ∀ r, r < p → (tabD p (lawB N p)).getD p 0 / 65536 ^ r % 65536 = W p (lawB N p) p r := by
    have hlt : ∀ r, W p (lawB N p) p r < 65536 := fun r => Nat.lt_of_le_of_lt (W_le p _ _ r) (by
      have : 2 ^ (lawB N p).length ≤ 2 ^ 9 := Nat.pow_le_pow_right (by decide) hlen9
      lia)
    intro r hr
    have hb := lawB_bd (N := N) hp
    generalize lawB N p = b at *
    rcases hp with rfl | rfl
    · rw [(tabD_ok (p := 3) (by decide) rfl (fun f hf x hx => rot3 hf hx) b hb hlen9).2 3 (Nat.le_refl _)]
      exact dig3 hlt r hr
    · rw [(tabD_ok (p := 5) (by decide) rfl (fun f hf x hx => rot5 hf hx) b hb hlen9).2 5 (Nat.le_refl _)]
      exact dig5 hlt r hr
  have hgv : ∀ r : Nat, r < p → (gv (tabC p (lawR N p) p) (r : Int)).fmod p = if r = 0 then 1 else 0 := fun r hr => by
    have c1 := cnt_W hp (lawR N p).reverse p r (Nat.le_refl _) hr
    rw [List.reverse_reverse] at c1
    have c2 := W_perm hp (lawB_perm hp hN) (fun x hx => by
      exact lawB_bd hp x ((lawB_perm hp hN).mem_iff.mp hx)) p r hr
    have c3 := t3 r hr
    rw [hrow r hr] at c3
    unfold tabC
    rw [tal_gv, c1, c2, fmod_nat, eq_of_beq c3]
    split <;> rfl
  refine (List.map_congr_left fun r hr => hgv r (List.mem_range.mp hr)).trans ?_
  rcases hp with rfl | rfl <;> rfl
end
end Mine

open PySem PySem.W PyProof.Rows PySem.Spec PySem.Calls
set_option Elab.async false
set_option linter.unusedVariables false
set_option linter.unusedSectionVars false
namespace Mine

theorem alSums_mod {f g : Nat → Int} {p : Nat} (hp : 1 ≤ p) (h : ∀ k, k ≤ 2 * p - 2 → (f k).fmod p = (g k).fmod p) : ∀ i, i ≤ p - 1 → (alSums f p i).map (fun x => x.fmod p) = (alSums g p i).map fun x => x.fmod p
  | 0, _ => by unfold alSums; simp only [List.map_cons, List.map_nil, h _ (Nat.le_refl _)]
  | i + 1, hi => by
    have ih := alSums_mod hp h i (by lia)
    have key : ∀ (L M : List Int) (a b : Int), a.fmod p = b.fmod p → L.map (fun x => x.fmod p) = M.map (fun x => x.fmod p) → (L.map (· + a)).map (fun x => x.fmod p) = (M.map (· + b)).map fun x => x.fmod p := by
      intro L
      induction L with
      | nil =>
        intro M a b _ e
        cases M with
        | nil => rfl
        | cons y M => simp at e
      | cons x L ih =>
        intro M a b hab e
        cases M with
        | nil => simp at e
        | cons y M =>
          simp only [List.map_cons, List.cons.injEq] at e ⊢
          exact ⟨by rw [← fmod_add, ← fmod_add_r, e.1, hab, fmod_add_r, fmod_add], ih M a b hab e.2⟩
    simp only [alSums, List.map_append]
    rw [key _ _ _ _ (h i (by lia)) ih, key _ _ _ _ (h (i + p - 1) (by lia)) ih]

theorem alSums_nat {f : Nat → Int} {b : List Nat} (h : ∀ k, f k = ((atN b k : Nat) : Int)) (p : Nat) : ∀ i, alSums f p i = (sumsN b p i).map fun x : Nat => (x : Int)
  | 0 => by unfold alSums sumsN; rw [h]; rfl
  | i + 1 => by
    simp only [alSums, sumsN, alSums_nat h p i, List.map_append, List.map_map]
    congr 1 <;> (refine List.map_congr_left fun x _ => ?_; simp only [Function.comp, h]; lia)

theorem exists_max : ∀ (l : List Int), l ≠ [] → ∃ m ∈ l, ∀ x ∈ l, x ≤ m
  | [], h => absurd rfl h
  | [x], _ => ⟨x, List.mem_singleton.mpr rfl, fun y hy => by rw [List.mem_singleton.mp hy]; exact Int.le_refl _⟩
  | x :: y :: l, _ => by
    obtain ⟨m, h1, h2⟩ := exists_max (y :: l) (by simp)
    by_cases h : m ≤ x
    · refine ⟨x, List.mem_cons_self .., fun z hz => ?_⟩
      rcases List.mem_cons.mp hz with rfl | hz
      · exact Int.le_refl _
      · exact Int.le_trans (h2 z hz) h
    · refine ⟨m, List.mem_cons_of_mem _ h1, fun z hz => ?_⟩
      rcases List.mem_cons.mp hz with rfl | hz
      · lia
      · exact h2 z hz

section
variable {N : List Int} {p : Nat} (hp : p = 3 ∨ p = 5) (hN : N.length = 2 * p - 1)
include hp
theorem lawH_F (k : Nat) (hk : k ≤ 2 * p - 2) : (lawF N p k).fmod p = (lawH N p (ordO N p) k).fmod p := by
  have hol : (ordO N p).length = 2 * p - 1 := by rw [(perm_ok N p).length_eq, List.length_range]
  have hlt : k < (ordO N p).length := by lia
  unfold lawF lawH
  rw [rows_ok N p, List.getD_eq_getElem?_getD, List.getD_eq_getElem?_getD (l := ordO N p), List.getElem?_map, List.getElem?_eq_getElem hlt]
  show (lawG N p _).fmod p = _
  unfold lawG
  have := fmod_add (p := p) (N.getD (ordO N p)[k] 0) 0
  simpa using this
theorem along_ok2 : alTab (lawF N p) p (p - 1) = tal ((alSums (lawH N p (ordO N p)) p (p - 1)).map fun x => x.fmod p) := by
  unfold alTab
  rw [alSums_mod (by lia) (lawH_F hp) (p - 1) (Nat.le_refl _)]

theorem lawK_nat : (lawK N p).isEmpty = !alikeN p (lawB N p) := by
  have : (fun k => lawF N p k == lawF N p (k + p - 1)) = fun k => atN (lawB N p) k == atN (lawB N p) (k + p - 1) := by
    funext k
    rw [lawF_nat hp, lawF_nat hp]
    by_cases h : atN (lawB N p) k = atN (lawB N p) (k + p - 1)
    · rw [h]; simp
    · have h' : ¬ ((atN (lawB N p) k : Nat) : Int) = ((atN (lawB N p) (k + p - 1) : Nat) : Int) := by lia
      rw [beq_eq_false_iff_ne.mpr h, beq_eq_false_iff_ne.mpr h']
  unfold lawK alikeN
  rw [this]
  generalize (fun k => atN (lawB N p) k == atN (lawB N p) (k + p - 1)) = q
  generalize List.range (p - 1) = l
  induction l with
  | nil => rfl
  | cons x l ih =>
    rw [List.filter_cons, List.any_cons]
    cases q x with
    | true => rfl
    | false => exact ih

theorem count_nat (r : Nat) : (lawA N p (ordO N p)).count (r : Int) = ((lawB N p).take (2 * p - 2)).count r := by
  rw [← ahead_eq]
  unfold lawB
  rw [← List.map_take]
  have hb : ∀ q ∈ (lawL N p).take (2 * p - 2), 0 ≤ q.1 := fun q hq => (lawL_bd hp q (List.mem_of_mem_take hq)).1
  generalize (lawL N p).take (2 * p - 2) = l at *
  induction l with
  | nil => rfl
  | cons q l ih =>
    have h0 := hb q (List.mem_cons_self ..)
    rw [List.map_cons, List.map_cons, List.count_cons, List.count_cons, ih fun z hz => hb z (List.mem_cons_of_mem _ hz)]
    congr 1
    by_cases h : q.1 = (r : Int)
    · have h' : q.1.toNat = r := by lia
      rw [h', h, beq_self_eq_true, beq_self_eq_true]
    · have h' : ¬ q.1.toNat = r := by lia
      rw [beq_eq_false_iff_ne.mpr h, beq_eq_false_iff_ne.mpr h']

theorem diffs_eq : (lawE N p).map (fun q => q.2 - q.1) = (List.range p).map fun r : Nat => ((((lawB N p).take (2 * p - 2)).count r : Nat) : Int) := by
  rw [ends_ok2, List.map_map]
  refine List.map_congr_left fun r _ => ?_
  simp only [Function.comp]
  rw [count_nat hp]
  lia

theorem max_ok : ∃ m, m ∈ (lawE N p).map (fun q => q.2 - q.1) ∧ (∀ x ∈ (lawE N p).map (fun q => q.2 - q.1), x ≤ m) ∧ (lawK N p).isEmpty = !decide ((p : Int) ≤ m) := by
  obtain ⟨m, h1, h2⟩ := exists_max ((lawE N p).map fun q => q.2 - q.1) (by
    intro q
    have := congrArg List.length q
    rw [diffs_eq hp, List.length_map, List.length_range] at this
    simp at this
    lia)
  refine ⟨m, h1, h2, ?_⟩
  rw [lawK_nat hp]
  congr 1
  have T := law_test (N := N) hp
  unfold testN at T
  simp only [Bool.and_eq_true] at T
  rw [eq_of_beq T.1.1]
  rw [diffs_eq hp] at h1 h2
  unfold manyN
  obtain ⟨r, hr, e⟩ := List.mem_map.mp h1
  by_cases h : (p : Int) ≤ m
  · rw [decide_eq_true h, List.any_eq_true]
    exact ⟨r, hr, Nat.ble_eq.mpr (by lia)⟩
  · rw [decide_eq_false h, List.any_eq_false]
    intro r' hr' q
    have h3 := h2 _ (List.mem_map.mpr ⟨r', hr', rfl⟩)
    have h4 := Nat.ble_eq.mp q
    lia

theorem full_ok (h : (lawK N p).isEmpty = true) : ((List.range p).map fun i : Nat => (i : Int)).Perm ((alTab (lawF N p) p (p - 1)).map (·.1)) := by
  have T := law_test (N := N) hp
  unfold testN at T
  simp only [Bool.and_eq_true, Bool.or_eq_true] at T
  rw [lawK_nat hp] at h
  have t2 := T.1.2.resolve_left fun q => by rw [q] at h; cases h
  rw [List.all_eq_true] at t2
  have e : (alTab (lawF N p) p (p - 1)).map (·.1) = firsts (((sumsN (lawB N p) p (p - 1)).map fun x : Nat => (x : Int)).map fun x => x.fmod p) := by
    unfold alTab
    rw [alSums_nat (lawF_nat hp)]
    exact tal_keys _
  rw [e]
  refine (List.perm_ext_iff_of_nodup ?_ (firsts_nodup _)).mpr fun x => ?_
  · rw [List.nodup_iff_pairwise_ne, List.pairwise_map]
    exact List.nodup_range.imp fun h q => h (by lia)
  · rw [firsts_mem]
    constructor
    · intro hx
      obtain ⟨r, hr, rfl⟩ := List.mem_map.mp hx
      have := t2 r hr
      rw [List.contains_iff_mem] at this
      obtain ⟨z, hz, rfl⟩ := List.mem_map.mp this
      exact List.mem_map.mpr ⟨(z : Int), List.mem_map.mpr ⟨z, hz, rfl⟩, fmod_nat _ _⟩
    · intro hx
      obtain ⟨y, hy, rfl⟩ := List.mem_map.mp hx
      have := fmod_bd (p := p) (by lia) y
      exact List.mem_map.mpr ⟨(y.fmod p).toNat, List.mem_range.mpr (by lia), by lia⟩

include hN
theorem lawOk : ∃ m, LawOk N p (ordO N p) m := by
  obtain ⟨m, h1, h2, h3⟩ := max_ok (N := N) hp
  exact ⟨m, perm_ok N p, sort_ok2 N p, rows_ok N p, ends_ok2 N p, tab_ok N p, egz_ok hp hN, along_ok2 hp, h1, h2, h3, full_ok hp⟩
end
end Mine

open PySem PySem.W PyProof.Rows PySem.Spec PySem.Calls
set_option Elab.async false
set_option maxRecDepth 100000
set_option linter.unusedVariables false
namespace Mine

noncomputable abbrev lat : List (Addr × Addr) := [(129, 125), (122, 118), (55, 51), (48, 44), (173, 171)]
theorem ghK {K : Frag} {h : Heap} (hT : TabsAt lat h) (X : K.In h) (hK : noTabs K = true) : K.In (hideAll h TB) := by
  have Y := ghost_K hT X hK
  exact Y
theorem ghT {h : Heap} {p : Program} {loose : List Str} {mean : ExcName → Option Value} {mg mb : Str → Option Value} (hT : TabsAt lat h) (T : Top p loose mean mg mb h) :
    Top topProg (loose ++ (recsOf p).map (·.name) ++ (litsOf p).map (·.1) ++ (clssOf p loose).map (·.name)) mean mg mb (hideAll h TB) := by
  have Y := ghost_top hT T
  exact Y
theorem ghL {h : Heap} {a : Addr} {xs : Array Value} (hT : TabsAt lat h) (x : h.IsList a xs) : (hideAll h TB).IsList a xs := by
  have Y := ghost_list hT x
  exact Y
theorem noT (P : Params) : noTabs (hd.heap_39 P) = true := by kernel_rfl
theorem chK (P : Params) : (lat.all fun q => codeHdIn (hd.heap_39 P) q.1 q.2) = true := by kernel_rfl
theorem chT (P : Params) : (tabq.all fun q => codeHdIn (hd.heap_39 P) q.1 q.2.1) = true := by kernel_rfl
set_option maxHeartbeats 1000000 in
theorem law_call {prog : PySem.Program} {c : ClaimW} {w : World} {s₀ s₁ : Shared} {mg mb : Str → Option Value} {as : List Addr} {e : ∀ P, as = (hd.heap_39 P).map (·.1)} {p : Program} {loose : List Str} {mean : ExcName → Option Value} {fa l : Addr} {scr : List Int} {vs : List Value}
    (Y : (kmHook hd.heap_39 as e [125, 118, 51, 44, 171]).says w s₁.heap) (T : Top p loose mean mg mb s₁.heap) (hmg : mg (Str.ofString "law") = some (.ref fa)) (hg : s₁.gens = #[])
    (hL : s₁.heap.IsList l vs.toArray) (hI : IntsAre vs scr) (hc : scr.length ≤ 63) {args : List WData} (hrais : ∀ a x, c.raises a x = false) (hpost : c.post args (.bool true) args = true) :
    wpAny (model prog w) callerA (call (.ref fa) [.ref l]) (fun v s' => GoodWG c (classAt s₀.heap) (ExcName.means s₀.heap) args s₁ (.ok (.ret v)) s')
      (fun e s' => GoodWG c (classAt s₀.heap) (ExcName.means s₀.heap) args s₁ (.error e) s') s₁ := by
  have X := km_in_of Y
  have hT8 := km_tabs_of Y
  have hT9 : TabsAt lat s₁.heap := fun q hq => ⟨codeHd_of_K (c := q.1) (P := q.2) X (List.all_eq_true.mp (chK w.params) q hq), hT8 _ (List.mem_map_of_mem (f := (·.2)) hq)⟩
  have X' := ghK hT9 X (noT w.params)
  have T' := ghT hT9 T
  have cd : ∀ q ∈ tabq, CodeHd (hideAll s₁.heap TB) q.1 q.2.1 := fun q hq => codeHd_of_K X' (List.all_eq_true.mp (chT w.params) q hq)
  have G : Good ⟨prog, w, _, mean, mg, mb⟩ TB s₁.heap := ⟨fun _ h => h, fun a ha => ⟨_, hT8 a ha⟩, X', T', cd, fun q hq => ⟨#[], hT8 _ (tabq_tb q hq), trivial, fun pos c e => nomatch e⟩⟩
  have efa : fa = 174 := by
    have h1 := mg_of (n := Str.ofString "law") (v := .ref 174) X' T'.g (by kernel_rfl)
    rw [hmg] at h1
    cases h1
    rfl
  subst efa
  obtain ⟨pp, hpp⟩ : ∃ pp : Nat, pp = [3, 3, 5].getD (scr.length % 3) 0 := ⟨_, rfl⟩
  have h35 : pp = 3 ∨ pp = 5 := by
    rw [hpp]
    have : scr.length % 3 < 3 := Nat.mod_lt _ (by decide)
    generalize scr.length % 3 = r at *
    match r, this with
    | 0, _ => exact .inl rfl
    | 1, _ => exact .inl rfl
    | 2, _ => exact .inr rfl
  obtain ⟨m, M⟩ := lawOk h35 (numsOf_len scr (2 * pp - 1))
  refine law_ok (k := 0) hc hpp (by lia) (by lia) M G ⟨rfl, by decide, by decide⟩ rfl (.scr (ghL hT9 hL) (ints_repL (by simpa using hI))) fun h' tk kh G' => ?_
  refine ⟨.inl ⟨_, .bool true, [], rfl, fun _ => hrais _ _, .bool true, hpost, fun _ => ⟨.nil, fun a ha => nomatch ha⟩⟩, ⟨fun b o q => ?_, fun b o q => ?_⟩, rfl, .of_eq hg⟩
  · by_cases hb : b ∈ TB
    · rw [hT8 b hb] at q
      cases q
      obtain ⟨ps, hps⟩ : ∃ ps, h'.get? b = some (tabObj ps) := by
        have key : ∃ q ∈ tabq, q.2.1 = b := by
          simp only [TB, List.mem_cons, List.not_mem_nil, or_false] at hb
          rcases hb with rfl | rfl | rfl | rfl | rfl
          · exact ⟨_, .head _, rfl⟩
          · exact ⟨_, .tail _ (.head _), rfl⟩
          · exact ⟨_, .tail _ (.tail _ (.head _)), rfl⟩
          · exact ⟨_, .tail _ (.tail _ (.tail _ (.head _))), rfl⟩
          · exact ⟨_, .tail _ (.tail _ (.tail _ (.tail _ (.head _)))), rfl⟩
        obtain ⟨q, hq, rfl⟩ := key
        obtain ⟨ps, e, _⟩ := G'.tabs q hq
        exact ⟨ps, e⟩
      obtain ⟨q, hq, rfl⟩ : ∃ q ∈ lat, q.2 = b := by
        obtain ⟨q, hq, e⟩ := List.mem_map.mp (show b ∈ lat.map (·.2) from hb)
        exact ⟨q, hq, e⟩
      obtain ⟨oc, ws, _, _, _, _, _, _, _, c1, c2, c3, c4, _⟩ := (hT9 q hq).1
      exact .inr (.inl ⟨⟨q.1, oc, ws, c1, c2, c3, c4⟩, rfl, #[], ps, rfl, by rw [hps]; simp⟩)
    · exact .inl (kh b o hb q)
  · by_cases hb : b ∈ TB
    · exact G'.low b hb
    · exact ⟨o, kh b o hb q⟩
end Mine

open PySem PySem.W PyProof.Rows PySem.Spec PySem.Calls
set_option Elab.async false

set_option maxRecDepth 100000 in
set_option maxHeartbeats 8000000 in
theorem PySem.Challenge.cw_pe0215_01_holds : PySem.Challenge.rw_pe0215_01.Holds := by
  exact Mine.hd (by
    intro w s₀ s₁ mg mb G Y fa o pm cd doc dV kV ho hd hcd hD hmg hg args vals as hpre hlay hrd hwl hlo
    refine Ground.open G ?_
    intro T B D TE TW
    wrow_args hpre hlay hrd hwl hlo
    rename_i scr hs hlay0 hL1 hr1 hl2 a4 a3 l vs a0 hL ra wl r0 hI hr hc1 hc2
    exact Mine.law_call Y T hmg hg hL hI (by lia) (fun _ _ => rfl) (by wrow_post))
