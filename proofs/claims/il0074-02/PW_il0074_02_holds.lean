import PyProof.Rows.All
import Wide.All
import OpenK.AllK
import Wide.FinOn
import KE.KNestM
import KE.KPar
import KE.KCallOwn
import Lean
import PySem.Challenge.RW_il0074_02
set_option Elab.async false
section
open PySem PySem.W PyProof.Rows
set_option Elab.async false
set_option maxRecDepth 100000
set_option maxHeartbeats 8000000
namespace Mine
noncomputable def vw : Program := view PySem.Challenge.pw_il0074_02 [53]
noncomputable def lz : List Str := (["_wall", "_Accumulator", "EMPTYSTRING", "_plain_name", "ABCMeta", "_ABCLike", "_abc_plain_meta", "fspath", "_check_arg_types", "_get_sep", "join", "dirname", "commonpath", "S_IFMT",
  "S_IFDIR", "S_IFCHR", "S_IFBLK", "S_IFREG", "S_IFIFO", "S_IFLNK", "S_IFSOCK", "S_ISUID", "S_ISGID", "S_ISVTX", "S_IRUSR", "S_IWUSR", "S_IXUSR", "S_IRGRP", "S_IWGRP", "S_IXGRP", "S_IROTH", "S_IWOTH", "S_IXOTH",
  "_filemode_table", "filemode", "_law_modes", "_law_read", "_law_turned", "_law_holds", "_law_row", "_law_count", "_law_above", "_law_wanted", "_law_forest"] : List String).map Str.ofString
local macro_rules
  | `(tactic| o_head $t:term) => do
    let go (k a p : Lean.TSyntax `term) := `(tactic| (refine holds_open (q := vw) (loose := lz) (Xt := fun s => xlAt vw [] s && recOk (RowW.records PySem.Challenge.rw_il0074_02.row.toRowW) s) (XP := XL vw []) (Yf := Hook.obs (kmHook $k $a $p [63, 70])) (Ya := Hook.val (kmHook $k $a $p [63, 70])) (YP := Hook.says (kmHook $k $a $p [63, 70])) (N := 4286) ?hl (Hook.of (kmHook $k $a $p [63, 70])) (Hook.keeps (kmHook $k $a $p [63, 70])) (fun s e => xl_of s (Bool.and_eq_true_iff.mp e).1) XL.keeps (by rfl) (by rfl) (by rfl) (fun s e => recFacts_of (Bool.and_eq_true_iff.mp e).2) (by rfl) (by first | assumption | decide +kernel) (by decide +kernel) ⟨rfl, rfl, rfl, rfl, rfl, by decide +kernel⟩ ?hw ?hc; (case hl => intro w; kernel_rfl); (case' hw => rename_i said; clear said); (case' hc => rename_i said; clear said)))
    match t with
    | `(($f:ident $k $a $p)) => if f.getId.eraseMacroScopes == `kHook then go ⟨k⟩ ⟨a⟩ ⟨p⟩ else Lean.Macro.throwUnsupported
    | `($f:ident $k $a $p) => if f.getId.eraseMacroScopes == `kHook then go ⟨k⟩ ⟨a⟩ ⟨p⟩ else Lean.Macro.throwUnsupported
    | _ => Lean.Macro.throwUnsupported
local macro_rules | `(tactic| o_law) => `(tactic| refine holds_law (by decide +kernel) fun said => ?_)
open_top hd for PySem.Challenge.rw_il0074_02
end Mine

end
section
open PySem PySem.W PyProof.Rows
set_option Elab.async false
namespace Mine

/-- plain data, as the laws see it -/
inductive PV where
  | none
  | bool (b : Bool)
  | int (i : Int)
  | str (s : Str)
  | tup (xs : List PV)
  | lst (xs : List PV)
  | ptr (a : Addr)
  | glob (v : Value)
  | slc (a b c : PV)
  deriving Inhabited

/-- what stands at a mutable address -/
inductive Cell where
  | list (xs : List PV)
  | acc (d : Addr) (xs : List PV)
  | ini (i : Option Int)

inductive Slot where
  | no
  | fro (o : Obj)
  | hid (o : Obj)
  | cel (c : Cell)
  | own
  | tab

noncomputable def Slot.cell? : Slot → Option Cell
  | .cel c => some c
  | _ => .none
noncomputable abbrev Map := Addr → Slot
noncomputable def Map.set (W : Map) (a : Addr) (x : Slot) : Map := fun b => if b = a then x else W b
theorem Map.set_self (W : Map) (a x) : W.set a x a = x := by simp [Map.set]
theorem Map.set_ne {W : Map} {a b : Addr} {x} (h : b ≠ a) : W.set a x b = W b := by simp [Map.set, h]
noncomputable def Slot.tag : Slot → Nat
  | .no => 0
  | .fro _ => 1
  | .hid _ => 2
  | .cel _ => 3
  | .own => 4
  | .tab => 5
/-- two places whose slots are of two kinds -/
theorem nq {W : Map} {a b : Addr} {x y : Slot} (e : W b = x) (h : W a = y) (d : (x.tag == y.tag) = false) : b ≠ a := by
  rintro rfl
  rw [← e, ← h, beq_self_eq_true] at d
  cases d

noncomputable abbrev tupObj (vs : List Value) (n : Nat) : Obj := { cls := .type "tuple", data := .seq vs.toArray n }
noncomputable abbrev tabObj (vs : Array Value) : Obj := { cls := .none, data := .fields vs }
noncomputable abbrev lstObj (vs : List Value) (n : Nat) : Obj := { cls := .type "list", data := .seq vs.toArray n }

inductive SeqR (W : Map) (mkO : List Value → Nat → Obj) (P : List Value → Prop) (v : Value) : Prop
  | mk (a : Addr) (vs : List Value) (n : Nat) (e : v = .ref a) (w : W a = .fro (mkO vs n)) (z : vs.length ≤ sizeLine) (r : P vs)
inductive SlcR (W : Map) (A B C : Value → Prop) (v : Value) : Prop
  | mk (r : Addr) (va vb vc : Value) (e : v = .ref r) (w : W r = .fro { cls := .type "slice", data := .fields #[va, vb, vc] }) (ra : A va) (rb : B vb) (rc : C vc)
inductive ConsR (A : Value → Prop) (B : List Value → Prop) (vs : List Value) : Prop
  | mk (v : Value) (r : List Value) (e : vs = v :: r) (a : A v) (b : B r)
mutual
noncomputable def VRel (W : Map) : PV → Value → Prop
  | .none, v => v = .none
  | .bool b, v => v = .bool b
  | .int i, v => ∃ t, v = .int i t
  | .str s, v => s.length ≤ sizeLine ∧ ∃ t, v = .str s t
  | .tup xs, v => SeqR W tupObj (fun vs => VRels W xs vs) v
  | .lst xs, v => SeqR W lstObj (fun vs => VRels W xs vs) v
  | .ptr a, v => v = .ref a
  | .glob u, v => v = u
  | .slc a b c, v => SlcR W (fun u => VRel W a u) (fun u => VRel W b u) (fun u => VRel W c u) v
noncomputable def VRels (W : Map) : List PV → List Value → Prop
  | [], vs => vs = []
  | x :: xs, vs => ConsR (fun u => VRel W x u) (fun us => VRels W xs us) vs
end

/-- W' goes on from W -/
structure Le (W W' : Map) : Prop where
  fro : ∀ a o, W a = .fro o → W' a = .fro o
  hid : ∀ a o, W a = .hid o → W' a = .hid o
  own : ∀ a, W a = .own → W' a = .own
  no : ∀ a, W' a = .no → W a = .no
/-- what a frame asks of the way on -/
structure LeF (W W' : Map) : Prop where
  fro : ∀ a o, W a = .fro o → W' a = .fro o
  hidc : ∀ a o v, o.data = .cell v → W a = .hid o → W' a = .hid o
  own : ∀ a, W a = .own → W' a = .own
theorem Le.toF {W W' : Map} (l : Le W W') : LeF W W' := ⟨l.fro, fun a o _ _ h => l.hid a o h, l.own⟩
theorem Le.refl (W : Map) : Le W W := ⟨fun _ _ h => h, fun _ _ h => h, fun _ h => h, fun _ h => h⟩
/-- one map that parts from the other at new places alone -/
theorem Le.off {W₀ W W' : Map} (l : Le W₀ W) (h : ∀ b, W₀ b ≠ .no → W' b = W b) : Le W₀ W' where
  fro b o e := (h b (by rw [e]; intro h; cases h)).trans (l.fro b o e)
  hid b o e := (h b (by rw [e]; intro h; cases h)).trans (l.hid b o e)
  own b e := (h b (by rw [e]; intro h; cases h)).trans (l.own b e)
  no b e := Classical.byContradiction fun c => c (l.no b ((h b c).symm.trans e))
theorem Le.setCel {W : Map} {a : Addr} {c : Cell} {x : Slot} (h : W a = .cel c) (hx : x ≠ .no) : Le W (W.set a x) where
  fro b o e := (Map.set_ne (nq e h rfl)).trans e
  hid b o e := (Map.set_ne (nq e h rfl)).trans e
  own b e := (Map.set_ne (nq e h rfl)).trans e
  no b e := by
    by_cases q : b = a
    · subst q; rw [Map.set_self] at e; exact absurd e hx
    · rwa [Map.set_ne q] at e
theorem Le.trans {W W' W'' : Map} (a : Le W W') (b : Le W' W'') : Le W W'' :=
  ⟨fun x o h => b.fro x o (a.fro x o h), fun x o h => b.hid x o (a.hid x o h), fun x h => b.own x (a.own x h), fun x h => a.no x (b.no x h)⟩

mutual
theorem VRel.mono {W W' : Map} (l : ∀ a o, W a = .fro o → W' a = .fro o) : ∀ (p : PV) (v : Value), VRel W p v → VRel W' p v
  | .none, _, h => h
  | .bool _, _, h => h
  | .int _, _, h => h
  | .str _, _, h => h
  | .tup xs, _, ⟨a, vs, n, e, f, z, r⟩ => ⟨a, vs, n, e, l _ _ f, z, VRels.mono l xs vs r⟩
  | .lst xs, _, ⟨a, vs, n, e, f, z, r⟩ => ⟨a, vs, n, e, l _ _ f, z, VRels.mono l xs vs r⟩
  | .ptr _, _, h => h
  | .glob _, _, h => h
  | .slc a b c, _, ⟨r, va, vb, vc, e, f, ra, rb, rc⟩ => ⟨r, va, vb, vc, e, l _ _ f, VRel.mono l a va ra, VRel.mono l b vb rb, VRel.mono l c vc rc⟩
theorem VRels.mono {W W' : Map} (l : ∀ a o, W a = .fro o → W' a = .fro o) : ∀ (xs : List PV) (vs : List Value), VRels W xs vs → VRels W' xs vs
  | [], _, h => h
  | x :: xs, _, ⟨v, r, e, a, b⟩ => ⟨v, r, e, VRel.mono l x v a, VRels.mono l xs r b⟩
end
theorem VRel.le {W W' : Map} {p : PV} {v : Value} (h : VRel W p v) (l : Le W W') : VRel W' p v := VRel.mono l.fro p v h
theorem VRels.le {W W' : Map} {xs : List PV} {vs : List Value} (h : VRels W xs vs) (l : Le W W') : VRels W' xs vs := VRels.mono l.fro xs vs h
theorem VRels.length {W : Map} : ∀ {xs : List PV} {vs : List Value}, VRels W xs vs → vs.length = xs.length
  | [], _, h => by cases h; rfl
  | _ :: xs, _, ⟨_, r, e, _, b⟩ => by subst e; simp [VRels.length b]
theorem VRels.get {W : Map} : ∀ {xs : List PV} {vs : List Value}, VRels W xs vs → ∀ (i : Nat) (p : PV), xs[i]? = some p → ∃ v, vs[i]? = some v ∧ VRel W p v
  | [], _, _, _, _, h => by simp at h
  | x :: xs, _, ⟨v, r, e, a, b⟩, 0, p, h => by subst e; simp at h; subst h; exact ⟨v, rfl, a⟩
  | x :: xs, _, ⟨v, r, e, a, b⟩, i + 1, p, h => by subst e; simpa using VRels.get b i p (by simpa using h)
theorem VRels.append {W : Map} : ∀ {xs ys : List PV} {vs us : List Value}, VRels W xs vs → VRels W ys us → VRels W (xs ++ ys) (vs ++ us)
  | [], _, _, _, h, k => by cases h; exact k
  | _ :: _, _, _, _, ⟨v, r, e, a, b⟩, k => by subst e; exact ⟨v, _, rfl, a, VRels.append b k⟩
theorem VRels.drop {W : Map} : ∀ (n : Nat) {xs : List PV} {vs : List Value}, VRels W xs vs → VRels W (xs.drop n) (vs.drop n)
  | 0, _, _, h => h
  | n + 1, [], _, h => by cases h; simp [VRels]
  | n + 1, _ :: _, _, ⟨v, r, e, a, b⟩ => by subst e; exact VRels.drop n b
theorem VRels.take {W : Map} : ∀ (n : Nat) {xs : List PV} {vs : List Value}, VRels W xs vs → VRels W (xs.take n) (vs.take n)
  | 0, _, _, h => by simp [VRels]
  | n + 1, [], _, h => by cases h; simp [VRels]
  | n + 1, _ :: _, _, ⟨v, r, e, a, b⟩ => by subst e; exact ⟨v, _, rfl, a, VRels.take n b⟩
theorem VRels.reverse {W : Map} : ∀ {xs : List PV} {vs : List Value}, VRels W xs vs → VRels W xs.reverse vs.reverse
  | [], _, h => by cases h; simp [VRels]
  | _ :: _, _, ⟨v, r, e, a, b⟩ => by subst e; rw [List.reverse_cons, List.reverse_cons]; exact VRels.append (VRels.reverse b) ⟨v, [], rfl, a, rfl⟩

/-- the run at hand: the program, the world, the heap at the law's start -/
structure Txt where
  prog : Program
  w : World
  K : Frag
  h₁ : Heap
  os : OsState
  mg : Str → Option Value
  mb : Str → Option Value
  accCls : Addr
  tabs : List Addr
  /-- a code table behind its start: the code of its one generator expression -/
  tabP : Addr → Map → Array Value → Prop

noncomputable def ini? (w : World) (i : Option Int) (es : Array DictEntry) : Prop := match i with
  | .none => es = #[]
  | .some n => ∃ t t', es = #[⟨PyData.keyHash w.params "_initial_size", .str "_initial_size" t', .int n t⟩]

variable (X : Txt)

noncomputable def CellAt (W : Map) (h : Heap) (a : Addr) : Cell → Prop
  | .list xs => ∃ vs n, h.get? a = some (lstObj vs n) ∧ vs.length ≤ sizeLine ∧ VRels W xs vs
  | .acc d xs => ∃ vs n, h.get? a = some { cls := .ref X.accCls, dict := some d, data := .seq vs.toArray n } ∧ vs.length ≤ sizeLine ∧ VRels W xs vs
  | .ini i => ∃ es n, h.get? a = some { cls := .type "dict", data := .dict es n } ∧ ini? X.w i es

noncomputable def SlotOk (W : Map) (h : Heap) (a : Addr) : Slot → Prop
  | .no => True
  | .fro o => h.get? a = some o
  | .hid o => h.get? a = some o
  | .cel c => CellAt X W h a c
  | .own => ∃ o, h.get? a = some o
  | .tab => ∃ vs, h.get? a = some (tabObj vs) ∧ X.tabP a W vs

noncomputable abbrev Sto := Addr → Option Cell
noncomputable abbrev Loc := Str → Option PV
noncomputable def Sto.set (σ : Sto) (a : Addr) (c : Option Cell) : Sto := fun b => if b = a then c else σ b
noncomputable def Loc.set (ρ : Loc) (x : Str) (p : PV) : Loc := fun y => if y = x then some p else ρ y

structure HRel (W : Map) (σ : Sto) (s : Shared) : Prop where
  ok : ∀ a, SlotOk X W s.heap a (W a)
  old : ∀ b o, X.h₁.get? b = some o → b ∉ X.tabs → W b = .fro o
  tab : ∀ b, b ∈ X.tabs → W b = .tab
  cel : ∀ a c, σ a = some c ↔ W a = .cel c
  os : s.os = X.os
  gens : AllBare s.gens

/-- what the text's start brings -/
structure Txt.Ok : Prop where
  inK : X.K.In X.h₁
  nolimit : X.h₁.NoLimit
  g : X.h₁.Ns mainGlobals X.mg
  b : X.h₁.Ns builtinsNs X.mb
  tabK : ∀ t ∈ X.tabs, X.K.lookup t = .none ∧ t ≠ cStatics ∧ t ≠ mainGlobals ∧ t ≠ builtinsNs
  tabM : ∀ t W W' vs, (∀ a o, W a = Slot.fro o → W' a = .fro o) → X.tabP t W vs → X.tabP t W' vs

variable {X}

theorem CellAt.mono {W W' : Map} {h h' : Heap} {a : Addr} {c : Cell} (l : ∀ b o, W b = .fro o → W' b = .fro o) (e : h'.get? a = h.get? a) (x : CellAt X W h a c) : CellAt X W' h' a c := by
  cases c with
  | list xs => obtain ⟨vs, n, a1, z, a2⟩ := x; exact ⟨vs, n, e.trans a1, z, VRels.mono l _ _ a2⟩
  | acc d xs => obtain ⟨vs, n, a1, z, a2⟩ := x; exact ⟨vs, n, e.trans a1, z, VRels.mono l _ _ a2⟩
  | ini i => obtain ⟨es, n, a1, a2⟩ := x; exact ⟨es, n, e.trans a1, a2⟩

theorem CellAt.some {W : Map} {h : Heap} {a : Addr} {c : Cell} (x : CellAt X W h a c) : ∃ o, h.get? a = some o := by
  cases c with
  | list xs => obtain ⟨vs, n, a1, _⟩ := x; exact ⟨_, a1⟩
  | acc d xs => obtain ⟨vs, n, a1, _⟩ := x; exact ⟨_, a1⟩
  | ini i => obtain ⟨es, n, a1, _⟩ := x; exact ⟨_, a1⟩

theorem SlotOk.mono (T : X.Ok) {W W' : Map} {h h' : Heap} {a : Addr} {x : Slot} (l : ∀ b o, W b = .fro o → W' b = .fro o) (e : ∀ o, h.get? a = some o → h'.get? a = some o)
    (y : SlotOk X W h a x) : SlotOk X W' h' a x := by
  cases x with
  | no => trivial
  | fro o => exact e _ y
  | hid o => exact e _ y
  | cel c =>
    obtain ⟨o, ho⟩ := CellAt.some y
    exact CellAt.mono l ((e _ ho).trans ho.symm) y
  | own => obtain ⟨o, ho⟩ := y; exact ⟨o, e _ ho⟩
  | tab => obtain ⟨vs, ho, hp⟩ := y; exact ⟨vs, e _ ho, T.tabM _ _ _ _ l hp⟩

theorem SlotOk.some {W : Map} {h : Heap} {a : Addr} {x : Slot} (y : SlotOk X W h a x) (hx : x ≠ .no) : ∃ o, h.get? a = some o := by
  cases x with
  | no => exact absurd rfl hx
  | fro o => exact ⟨o, y⟩
  | hid o => exact ⟨o, y⟩
  | cel c => exact CellAt.some y
  | own => exact y
  | tab => obtain ⟨vs, ho, _⟩ := y; exact ⟨_, ho⟩

namespace HRel
variable {W W' : Map} {σ σ' : Sto} {s : Shared}

theorem lt (R : HRel X W σ s) {a : Addr} (h : W a ≠ .no) : a < s.heap.objs.size := let ⟨_, ho⟩ := (R.ok a).some h; Heap.lt_size ho
theorem new (R : HRel X W σ s) : W s.heap.objs.size = .no := by
  cases e : W s.heap.objs.size with
  | no => rfl
  | _ => exact absurd (R.lt (a := s.heap.objs.size) (by rw [e]; intro h; cases h)) (Nat.lt_irrefl _)
theorem toks (R : HRel X W σ s) (t : Nat) : HRel X W σ { s with toks := t } := ⟨R.ok, R.old, R.tab, R.cel, R.os, R.gens⟩

theorem le_set (R : HRel X W σ s) (x : Slot) : Le W (W.set s.heap.objs.size x) := by
  exact (Le.refl W).off fun b hb => Map.set_ne fun e => hb (e ▸ R.new)

theorem fro (R : HRel X W σ s) {a : Addr} {o : Obj} (h : W a = .fro o) : s.heap.get? a = some o := by
  have := R.ok a; rw [h] at this; exact this
theorem hid (R : HRel X W σ s) {a : Addr} {o : Obj} (h : W a = .hid o) : s.heap.get? a = some o := by
  have := R.ok a; rw [h] at this; exact this
theorem at' (R : HRel X W σ s) {a : Addr} {c : Cell} (h : W a = .cel c) : CellAt X W s.heap a c := by
  have := R.ok a; rw [h] at this; exact this

theorem sto_none (R : HRel X W σ s) {a : Addr} (h : ∀ c, W a ≠ .cel c) : σ.set a none = σ := by
  funext b
  unfold Sto.set
  by_cases e : b = a
  · subst e
    rw [if_pos rfl]
    cases q : σ b with
    | none => rfl
    | some c => exact absurd ((R.cel b c).mp q) (h c)
  · rw [if_neg e]
/-- a new object, in a slot of its own -/
theorem push (T : X.Ok) (R : HRel X W σ s) {o : Obj} {x : Slot}
    (hx : SlotOk X (W.set s.heap.objs.size x) (s.heap.push o) s.heap.objs.size x) (ht : x ≠ .tab) (t : Nat) :
    HRel X (W.set s.heap.objs.size x) (σ.set s.heap.objs.size x.cell?) { s with heap := s.heap.push o, toks := t } := by
  have hn := R.new
  have l := (R.le_set x).fro
  refine ⟨fun a => ?_, fun b o' e hb => l _ _ (R.old b o' e hb), fun b hb => ?_, fun a c => ?_, R.os, R.gens⟩
  · by_cases h : a = s.heap.objs.size
    · subst h; rw [Map.set_self]; exact hx
    · rw [Map.set_ne h]; exact (R.ok a).mono T l fun o' e => Heap.get?_push_of_some _ e
  · rw [Map.set_ne]; exact R.tab b hb
    rintro rfl; have := R.tab _ hb; rw [hn] at this; cases this
  · by_cases h : a = s.heap.objs.size
    · subst h; rw [Map.set_self]; unfold Sto.set; rw [if_pos rfl]
      cases x <;> simp [Slot.cell?]
    · rw [Map.set_ne h]; unfold Sto.set; rw [if_neg h]; exact R.cel a c
theorem pushFro (T : X.Ok) (R : HRel X W σ s) {o : Obj} (hf : o.isFreed = false) (t : Nat) :
    HRel X (W.set s.heap.objs.size (.fro o)) σ { s with heap := s.heap.push o, toks := t } := by
  have r := R.push T (x := .fro o) (o := o) (Heap.get?_push_size _ hf) (by intro h; cases h) t
  have q : σ.set s.heap.objs.size (Slot.fro o).cell? = σ := R.sto_none (by intro c h; rw [R.new] at h; cases h)
  rw [q] at r; exact r
theorem pushHid (T : X.Ok) (R : HRel X W σ s) {o : Obj} (hf : o.isFreed = false) (t : Nat) :
    HRel X (W.set s.heap.objs.size (.hid o)) σ { s with heap := s.heap.push o, toks := t } := by
  have r := R.push T (x := .hid o) (o := o) (Heap.get?_push_size _ hf) (by intro h; cases h) t
  have q : σ.set s.heap.objs.size (Slot.hid o).cell? = σ := R.sto_none (by intro c h; rw [R.new] at h; cases h)
  rw [q] at r; exact r
theorem pushOwn (T : X.Ok) (R : HRel X W σ s) {o : Obj} (hf : o.isFreed = false) (t : Nat) :
    HRel X (W.set s.heap.objs.size .own) σ { s with heap := s.heap.push o, toks := t } := by
  have r := R.push T (x := .own) (o := o) ⟨o, Heap.get?_push_size _ hf⟩ (by intro h; cases h) t
  have q : σ.set s.heap.objs.size Slot.own.cell? = σ := R.sto_none (by intro c h; rw [R.new] at h; cases h)
  rw [q] at r; exact r
theorem pushCel (T : X.Ok) (R : HRel X W σ s) {o : Obj} {c : Cell} (hc : CellAt X (W.set s.heap.objs.size (.cel c)) (s.heap.push o) s.heap.objs.size c) (t : Nat) :
    HRel X (W.set s.heap.objs.size (.cel c)) (σ.set s.heap.objs.size (some c)) { s with heap := s.heap.push o, toks := t } :=
  R.push T (x := .cel c) hc (by intro h; cases h) t

/-- a heap that has changed at one tracked place -/
theorem same (T : X.Ok) (R : HRel X W σ s) {a : Addr} {x : Slot} {h' : Heap} (hs : Heap.SameBut a s.heap h') (ha : ∀ o, W a ≠ .fro o) (hat : W a ≠ .tab) (hxt : x ≠ .tab)
    (hx : SlotOk X (W.set a x) h' a x) (t : Nat) : HRel X (W.set a x) (σ.set a x.cell?) { s with heap := h', toks := t } := by
  have l : ∀ b o, W b = .fro o → W.set a x b = .fro o := fun b o e => by
    rw [Map.set_ne]; exact e
    rintro rfl; exact ha o e
  refine ⟨fun b => ?_, fun b o' e hb => l _ _ (R.old b o' e hb), fun b hb => ?_, fun b c => ?_, R.os, R.gens⟩
  · by_cases h : b = a
    · subst h; rw [Map.set_self]; exact hx
    · rw [Map.set_ne h]; exact (R.ok b).mono T l fun o' e => (hs.2 b h).trans e
  · rw [Map.set_ne]; exact R.tab b hb
    rintro rfl; exact hat (R.tab _ hb)
  · by_cases h : b = a
    · subst h; rw [Map.set_self]; unfold Sto.set; rw [if_pos rfl]
      cases x <;> simp [Slot.cell?]
    · rw [Map.set_ne h]; unfold Sto.set; rw [if_neg h]; exact R.cel b c
theorem set_same (W : Map) (a : Addr) : W.set a (W a) = W := by
  funext b; unfold Map.set; split
  · rename_i h; rw [h]
  · rfl
/-- the frame's own place has changed -/
theorem ownSet (T : X.Ok) (R : HRel X W σ s) {a : Addr} {o : Obj} {h' : Heap} (hs : Heap.SameBut a s.heap h') (ha : W a = .own) (ho : h'.get? a = some o) (t : Nat) :
    HRel X W σ { s with heap := h', toks := t } := by
  have r := R.same T (x := .own) hs (by intro o h; rw [ha] at h; cases h) (by rw [ha]; intro h; cases h) (by intro h; cases h) ⟨o, ho⟩ t
  have e : W.set a .own = W := by have := set_same W a; rw [ha] at this; exact this
  have q : (σ.set a none) = σ := R.sto_none (by intro c h; rw [ha] at h; cases h)
  rw [e] at r
  show HRel X W σ _
  have r' : HRel X W (σ.set a none) { s with heap := h', toks := t } := r
  rw [q] at r'; exact r'
end HRel
end Mine

end
section
open PySem PySem.W PyProof.Rows
set_option Elab.async false
namespace Mine
variable {X : Txt}

inductive NsOk (W : Map) (env : Env) (ρ : Loc) (h : Heap) : Prop
  | mk (m : Str → Option Value) (hn : h.Ns env.locals m) (hm : ∀ x p, env.kindOf x = some .local → ρ x = some p → ∃ v, m x = some v ∧ VRel W p v)
inductive CelOk (W : Map) (env : Env) (h : Heap) (x : Str) (p : PV) : Prop
  | mk (c : Addr) (v : Value) (h1 : env.cells.lookup x = some c) (h2 : h.IsCell c (some v)) (h3 : VRel W p v)
inductive CelWOk (W : Map) (env : Env) (h : Heap) (x : Str) : Prop
  | mk (c : Addr) (ov : Option Value) (h1 : env.cells.lookup x = some c) (h2 : c ≠ env.locals) (h3 : h.IsCell c ov) (h4 : W c = .own ∨ ∃ o v, W c = .hid o ∧ o.data = .cell v)
structure FOk (W : Map) (env : Env) (ρ : Loc) (h : Heap) : Prop where
  kind : env.scope.kind = .function
  glb : env.globals = mainGlobals
  blt : env.builtins = builtinsNs
  ownL : W env.locals = .own
  ns : NsOk W env ρ h
  cel : ∀ x p, env.kindOf x = some .cell → ρ x = some p → CelOk W env h x p
  celW : ∀ x, env.kindOf x = some .cell → CelWOk W env h x
  celO : env.func.isSome = true → ∀ x c, env.kindOf x = some .cell → env.cells.lookup x = some c → W c = .own
  celA : ∀ x y c, env.cells.lookup x = some c → env.cells.lookup y = some c → x = y

theorem IsCell.of_get {h h' : Heap} {c : Addr} {v : Option Value} (x : h.IsCell c v) (e : h'.get? c = h.get? c) : h'.IsCell c v :=
  let ⟨o, ho, hd⟩ := x; ⟨o, e.trans ho, hd⟩
theorem Ns.of_get {h h' : Heap} {a : Addr} {m} (x : h.Ns a m) (e : h'.get? a = h.get? a) : h'.Ns a m :=
  let ⟨o, es, ep, ho, r⟩ := x; ⟨o, es, ep, e.trans ho, r⟩

theorem FOk.goF {W W' : Map} {env : Env} {ρ : Loc} {h h' : Heap} (F : FOk W env ρ h) (l : LeF W W') (e : ∀ b, (W b = .own ∨ ∃ o v, W b = .hid o ∧ o.data = .cell v) → h'.get? b = h.get? b) : FOk W' env ρ h' := by
  obtain ⟨kind, glb, blt, ownL, ⟨m, hn, hm⟩, cel, celW, celO, celA⟩ := F
  refine ⟨kind, glb, blt, l.own _ ownL, ⟨m, Ns.of_get hn (e _ (.inl ownL)), fun x p hx hp => ?_⟩, fun x p hx hp => ?_, fun x hx => ?_, fun hf x c hx hc => l.own _ (celO hf x c hx hc), celA⟩
  · obtain ⟨v, h1, h2⟩ := hm x p hx hp; exact ⟨v, h1, VRel.mono l.fro _ _ h2⟩
  · obtain ⟨c, v, h1, h2, h3⟩ := cel x p hx hp
    obtain ⟨c', ov, g1, _, _, g4⟩ := celW x hx
    rw [h1] at g1; cases g1
    exact ⟨c, v, h1, IsCell.of_get h2 (e _ g4), VRel.mono l.fro _ _ h3⟩
  · obtain ⟨c, ov, g1, g2, g3, g4⟩ := celW x hx
    exact ⟨c, ov, g1, g2, IsCell.of_get g3 (e _ g4), g4.imp (l.own _) fun ⟨o, v, ho, hv⟩ => ⟨o, v, l.hidc _ _ _ hv ho, hv⟩⟩
theorem FOk.go {W W' : Map} {env : Env} {ρ : Loc} {h h' : Heap} (F : FOk W env ρ h) (l : Le W W') (e : ∀ b, (W b = .own ∨ ∃ o, W b = .hid o) → h'.get? b = h.get? b) : FOk W' env ρ h' :=
  F.goF l.toF fun b hb => e b (hb.imp id fun ⟨o, _, ho, _⟩ => ⟨o, ho⟩)

structure AOk (k : Nat) (A : Around) : Prop where
  depth : A.depth + 3 * k ≤ 600
  units : A.units + 60 * k ≤ 8000
  handled : A.handled = none
theorem AOk.lim {k : Nat} {A : Around} (a : AOk k A) : A.depth < recursionLimit := by have := a.depth; unfold recursionLimit; lia
theorem AOk.room {k : Nat} {A : Around} (a : AOk k A) : A.units < cLine := by have := a.units; unfold cLine; lia
theorem AOk.in1 {k : Nat} {A : Around} (a : AOk (k + 1) A) : AOk k A.in1 := ⟨by have := a.depth; simp; lia, by have := a.units; simp; lia, a.handled⟩
theorem AOk.less {k j : Nat} {A : Around} (a : AOk k A) (h : j ≤ k) : AOk j A := ⟨by have := a.depth; lia, by have := a.units; lia, a.handled⟩
theorem AOk.deeper {k : Nat} {A : Around} {env : Env} (a : AOk (k + 1) A) : AOk k (A.deeper env) := ⟨by have := a.depth; simp [Around.deeper]; lia, by have := a.units; simp; lia, a.handled⟩

noncomputable def op2 (f : Value → Value → Sem Value) : List Value → Sem Value
  | [x, y] => f x y
  | _ => unsupported ""

variable (X)
noncomputable abbrev Txt.M : Model := model X.prog X.w

inductive HPost (W : Map) (Q : PV → Sto → Prop) (v : Value) (s' : Shared) : Prop
  | mk (W' : Map) (p : PV) (σ' : Sto) (l : Le W W') (R : HRel X W' σ' s') (r : VRel W' p v) (q : Q p σ')
inductive VPost (W : Map) (env : Env) (ρ : Loc) (Q : PV → Sto → Prop) (v : Value) (s' : Shared) : Prop
  | mk (W' : Map) (p : PV) (σ' : Sto) (l : Le W W') (R : HRel X W' σ' s') (F : FOk W' env ρ s'.heap) (r : VRel W' p v) (q : Q p σ')

/-- an operation on values: no frame is touched -/
structure TOp (k : Nat) (f : List Value → Sem Value) (ps : List PV) (σ : Sto) (Q : PV → Sto → Prop) : Prop where
  run : ∀ A W s vs, AOk k A → HRel X W σ s → VRels W ps vs → wpAny X.M A (f vs) (HPost X W Q) (fun _ _ => False) s

/-- an expression in its frame -/
structure TE (k : Nat) (env : Env) (e : Expr) (ρ : Loc) (σ : Sto) (Q : PV → Sto → Prop) : Prop where
  run : ∀ A W s, AOk k A → HRel X W σ s → FOk W env ρ s.heap → wpAny X.M A (eval e env) (VPost X W env ρ Q) (fun _ _ => False) s

variable {X}

noncomputable def hideOwn (W : Map) (h : Heap) : Map := fun a => match W a with
  | .own => (match h.get? a with | some o => .hid o | none => .no)
  | x => x
noncomputable def backOwn (W W' : Map) : Map := fun a => match W a with
  | .own => .own
  | _ => W' a

theorem hideOwn_fro {W : Map} {h : Heap} {a : Addr} {o : Obj} : hideOwn W h a = .fro o ↔ W a = .fro o := by
  unfold hideOwn; cases e : W a <;> simp
  cases h.get? a <;> simp
theorem hideOwn_cel {W : Map} {h : Heap} {a : Addr} {c : Cell} : hideOwn W h a = .cel c ↔ W a = .cel c := by
  unfold hideOwn; cases e : W a <;> simp
  cases h.get? a <;> simp
theorem hideOwn_own {W : Map} {h : Heap} {a : Addr} : hideOwn W h a ≠ .own := by
  unfold hideOwn; cases e : W a <;> simp
  cases h.get? a <;> simp

theorem VRel.hide {W : Map} {h : Heap} {p : PV} {v : Value} (r : VRel W p v) : VRel (hideOwn W h) p v := VRel.mono (fun _ _ e => hideOwn_fro.mpr e) p v r
theorem VRels.hide {W : Map} {h : Heap} {ps : List PV} {vs : List Value} (r : VRels W ps vs) : VRels (hideOwn W h) ps vs := VRels.mono (fun _ _ e => hideOwn_fro.mpr e) ps vs r

theorem HRel.hide (T : X.Ok) {W : Map} {σ : Sto} {s : Shared} (R : HRel X W σ s) : HRel X (hideOwn W s.heap) σ s := by
  have l : ∀ b o, W b = .fro o → hideOwn W s.heap b = .fro o := fun _ _ e => hideOwn_fro.mpr e
  refine ⟨fun a => ?_, fun b o e hb => l _ _ (R.old b o e hb), fun b hb => ?_, fun a c => by rw [R.cel, hideOwn_cel], R.os, R.gens⟩
  · have h := R.ok a
    cases e : W a with
    | own =>
      rw [e] at h
      obtain ⟨o, ho⟩ := h
      simp only [hideOwn, e, ho]
      exact ho
    | _ =>
      have h' := h.mono T l (fun _ e => e)
      simp only [hideOwn, e] at h' ⊢
      exact h'
  · have := R.tab b hb
    simp only [hideOwn, this]

theorem Le.back {W W' : Map} {h : Heap} (l : Le (hideOwn W h) W') : Le W (backOwn W W') := by
  refine ⟨fun a o e => ?_, fun a o e => ?_, fun a e => ?_, fun a e => ?_⟩
  · simp only [backOwn, e]; exact l.fro _ _ (hideOwn_fro.mpr e)
  · simp only [backOwn, e]; exact l.hid _ _ (by simp only [hideOwn, e])
  · simp only [backOwn, e]
  · cases q : W a with
    | no => rfl
    | own => simp only [backOwn, q] at e; cases e
    | _ =>
      simp only [backOwn, q] at e
      have := l.no a e
      unfold hideOwn at this
      rw [q] at this
      cases this

theorem back_fro {W W' : Map} {σ : Sto} {s : Shared} (R : HRel X W σ s) (l : Le (hideOwn W s.heap) W') {a : Addr} {o : Obj} : backOwn W W' a = .fro o ↔ W' a = .fro o := by
  unfold backOwn
  cases e : W a with
  | own =>
    have h := R.ok a; rw [e] at h
    obtain ⟨o', ho⟩ := h
    have : W' a = .hid o' := l.hid _ _ (by simp only [hideOwn, e, ho])
    simp [this]
  | _ => simp
theorem HRel.back (T : X.Ok) {W W' : Map} {σ σ' : Sto} {s s' : Shared} (R : HRel X W σ s) (l : Le (hideOwn W s.heap) W') (R' : HRel X W' σ' s') : HRel X (backOwn W W') σ' s' := by
  have lf : ∀ b o, W' b = .fro o → backOwn W W' b = .fro o := fun _ _ e => (back_fro R l).mpr e
  have own : ∀ a, W a = .own → ∃ o, s.heap.get? a = some o ∧ W' a = .hid o := fun a e => by
    have h := R.ok a; rw [e] at h
    obtain ⟨o, ho⟩ := h
    exact ⟨o, ho, l.hid _ _ (by simp only [hideOwn, e, ho])⟩
  refine ⟨fun a => ?_, fun b o e hb => lf _ _ (R'.old b o e hb), fun b hb => ?_, fun a c => ?_, R'.os, R'.gens⟩
  · cases e : W a with
    | own =>
      obtain ⟨o, ho, hw⟩ := own a e
      simp only [backOwn, e]
      have := R'.ok a; rw [hw] at this
      exact ⟨o, this⟩
    | _ =>
      have h' := (R'.ok a).mono T lf (fun _ e => e)
      simp only [backOwn, e]
      exact h'
  · have h := R.tab b hb
    simp only [backOwn, h]; exact R'.tab b hb
  · rw [R'.cel]
    cases e : W a with
    | own => obtain ⟨o, ho, hw⟩ := own a e; simp [backOwn, e, hw]
    | _ => simp only [backOwn, e]

theorem FOk.back {W W' : Map} {σ σ' : Sto} {s s' : Shared} {env : Env} {ρ : Loc} (R : HRel X W σ s) (F : FOk W env ρ s.heap) (l : Le (hideOwn W s.heap) W') (R' : HRel X W' σ' s') :
    FOk (backOwn W W') env ρ s'.heap := by
  refine F.go (Le.back l) fun b hb => ?_
  rcases hb with e | ⟨o, e⟩
  · have h := R.ok b; rw [e] at h
    obtain ⟨o, ho⟩ := h
    have hw : W' b = .hid o := l.hid _ _ (by simp only [hideOwn, e, ho])
    rw [ho]; exact R'.hid hw
  · rw [R.hid e]; exact R'.hid (l.hid _ _ (by simp only [hideOwn, e]))

/-- an operation, within a frame -/
theorem lift (T : X.Ok) {k : Nat} {A : Around} {W : Map} {env : Env} {ρ : Loc} {σ : Sto} {s : Shared} {f : List Value → Sem Value} {ps : List PV} {vs : List Value} {Q : PV → Sto → Prop}
    (h : TOp X k f ps σ Q) (a : AOk k A) (R : HRel X W σ s) (F : FOk W env ρ s.heap) (r : VRels W ps vs) : wpAny X.M A (f vs) (VPost X W env ρ Q) (fun _ _ => False) s := by
  refine wpAny_mono (h.run A _ s vs a (R.hide T) r.hide) (fun v s' hv => ?_) fun _ _ e => e
  obtain ⟨W', p, σ', l, R', rv, q⟩ := hv
  exact ⟨backOwn W W', p, σ', Le.back l, HRel.back T R l R', FOk.back R F l R', VRel.mono (fun _ _ e => (back_fro R l).mpr e) _ _ rv, q⟩

end Mine

end
section
open PySem PySem.W PyProof.Rows
set_option Elab.async false
set_option linter.unusedVariables false
namespace Mine
variable {X : Txt}

theorem sizeLine_lt : (sizeLine : Int) < 2 ^ 63 := by decide
theorem VRel.isList {W : Map} {σ : Sto} {s : Shared} {xs : List PV} {v : Value} (R : HRel X W σ s) (r : VRel W (.lst xs) v) :
    ∃ a vs, v = .ref a ∧ s.heap.IsList a vs.toArray ∧ vs.length ≤ sizeLine ∧ VRels W xs vs :=
  let ⟨a, vs, n, e, f, z, q⟩ := r; ⟨a, vs, e, ⟨_, R.fro f, rfl, n, rfl⟩, z, q⟩
theorem VRel.isTup {W : Map} {σ : Sto} {s : Shared} {xs : List PV} {v : Value} (R : HRel X W σ s) (r : VRel W (.tup xs) v) :
    ∃ a vs, v = .ref a ∧ IsTup s.heap a vs.toArray ∧ vs.length ≤ sizeLine ∧ VRels W xs vs :=
  let ⟨a, vs, n, e, f, z, q⟩ := r; ⟨a, vs, e, ⟨_, R.fro f, rfl, n, rfl⟩, z, q⟩

theorem VPost.le {W W1 : Map} {env : Env} {ρ : Loc} {Q : PV → Sto → Prop} {v : Value} {s : Shared} (l : Le W W1) (h : VPost X W1 env ρ Q v s) : VPost X W env ρ Q v s :=
  let ⟨W', p, σ', l', R, F, r, q⟩ := h; ⟨W', p, σ', l.trans l', R, F, r, q⟩
theorem HPost.le {W W1 : Map} {Q : PV → Sto → Prop} {v : Value} {s : Shared} (l : Le W W1) (h : HPost X W1 Q v s) : HPost X W Q v s :=
  let ⟨W', p, σ', l', R, r, q⟩ := h; ⟨W', p, σ', l.trans l', R, r, q⟩
theorem VPost.here {W : Map} {env : Env} {ρ : Loc} {Q : PV → Sto → Prop} {σ : Sto} {p : PV} {v : Value} {s : Shared} (R : HRel X W σ s) (F : FOk W env ρ s.heap) (r : VRel W p v) (q : Q p σ) : VPost X W env ρ Q v s :=
  ⟨W, p, σ, Le.refl W, R, F, r, q⟩
theorem HPost.here {W : Map} {Q : PV → Sto → Prop} {σ : Sto} {p : PV} {v : Value} {s : Shared} (R : HRel X W σ s) (r : VRel W p v) (q : Q p σ) : HPost X W Q v s :=
  ⟨W, p, σ, Le.refl W, R, r, q⟩

/-! truth -/
noncomputable def tru : PV → Option Bool
  | .none => some false
  | .bool b => some b
  | .int i => some (i != 0)
  | .str s => some ((s.length : Int) != 0)
  | .tup xs => some (!xs.isEmpty)
  | .lst xs => some (!xs.isEmpty)
  | _ => none
theorem isEmpty_of_length {α β : Type} {xs : List α} {ys : List β} (h : xs.length = ys.length) : xs.toArray.isEmpty = ys.isEmpty := by
  cases xs <;> cases ys <;> simp_all
theorem truthy_ok {A : Around} {W : Map} {σ : Sto} {s : Shared} {p : PV} {v : Value} {b : Bool} {Q : Bool → Shared → Prop} {E : Value → Shared → Prop} (R : HRel X W σ s) (r : VRel W p v) (h : tru p = some b)
    (hq : ∀ t, Q b { s with toks := t }) : wpAny X.M A (truthy v) Q E s := by
  cases p with
  | none => cases r; cases h; exact truthy_none (hq s.toks)
  | bool c => cases r; cases h; exact wpAny_truthy_bool (hq s.toks)
  | int i => obtain ⟨t, rfl⟩ := r; cases h; exact PySem.P.truthy_int (hq s.toks)
  | str x => obtain ⟨z, t, rfl⟩ := r; cases h; exact PySem.P.truthy_str (by have := sizeLine_lt; lia) (hq _)
  | tup xs =>
    obtain ⟨a, vs, rfl, hl, z, q⟩ := VRel.isTup R r
    cases h
    refine truthy_tuple hl (by have := sizeLine_lt; rw [List.size_toArray]; lia) ?_
    rw [isEmpty_of_length q.length]; exact hq _
  | lst xs =>
    obtain ⟨a, vs, rfl, hl, z, q⟩ := VRel.isList R r
    cases h
    refine wpAny_truthy_list hl (by have := sizeLine_lt; rw [List.size_toArray]; lia) ?_
    rw [isEmpty_of_length q.length]; exact hq _
  | ptr a => cases h
  | glob u => cases h
  | slc a b c => cases h

inductive BPost (X : Txt) (W : Map) (env : Env) (ρ : Loc) (Q : Bool → Sto → Prop) (b : Bool) (s' : Shared) : Prop
  | mk (W' : Map) (σ' : Sto) (l : Le W W') (R : HRel X W' σ' s') (F : FOk W' env ρ s'.heap) (q : Q b σ')
structure TT (X : Txt) (k : Nat) (env : Env) (e : Expr) (ρ : Loc) (σ : Sto) (Q : Bool → Sto → Prop) : Prop where
  run : ∀ A W s, AOk k A → HRel X W σ s → FOk W env ρ s.heap → wpAny X.M A (isTrue e env (eval e env)) (BPost X W env ρ Q) (fun _ _ => False) s
inductive LPost (X : Txt) (W : Map) (env : Env) (ρ : Loc) (Q : List PV → Sto → Prop) (vs : List Value) (s' : Shared) : Prop
  | mk (W' : Map) (ps : List PV) (σ' : Sto) (l : Le W W') (R : HRel X W' σ' s') (F : FOk W' env ρ s'.heap) (r : VRels W' ps vs) (q : Q ps σ')
theorem BPost.le {W W1 : Map} {env : Env} {ρ : Loc} {Q : Bool → Sto → Prop} {b : Bool} {s : Shared} (l : Le W W1) (h : BPost X W1 env ρ Q b s) : BPost X W env ρ Q b s :=
  let ⟨W', σ', l', R, F, q⟩ := h; ⟨W', σ', l.trans l', R, F, q⟩
theorem LPost.le {W W1 : Map} {env : Env} {ρ : Loc} {Q : List PV → Sto → Prop} {vs : List Value} {s : Shared} (l : Le W W1) (h : LPost X W1 env ρ Q vs s) : LPost X W env ρ Q vs s :=
  let ⟨W', ps, σ', l', R, F, r, q⟩ := h; ⟨W', ps, σ', l.trans l', R, F, r, q⟩

theorem FOk.toks {W : Map} {env : Env} {ρ : Loc} {s : Shared} (F : FOk W env ρ s.heap) (t : Nat) : FOk W env ρ ({ s with toks := t } : Shared).heap := F
/-- the frame after a push -/
theorem FOk.push (T : X.Ok) {W : Map} {σ : Sto} {env : Env} {ρ : Loc} {s : Shared} (R : HRel X W σ s) (F : FOk W env ρ s.heap) (o : Obj) (x : Slot) : FOk (W.set s.heap.objs.size x) env ρ (s.heap.push o) := by
  refine F.go (R.le_set x) fun b hb => ?_
  have hs : W b ≠ .no := by rcases hb with e | ⟨o, e⟩ <;> rw [e] <;> intro h <;> cases h
  obtain ⟨o', ho⟩ := (R.ok b).some hs
  rw [ho]; exact Heap.get?_push_of_some _ ho

section
variable {k : Nat} {env : Env} {ρ : Loc} {σ : Sto} {Q : PV → Sto → Prop}

theorem TE.int {i : Int} {j pos} (h : Q (.int i) σ) : TE X k env (.Constant (.int i) j pos) ρ σ Q := .mk <|
  fun _ _ s _ R F => wpAny_Constant_int (VPost.here (p := .int i) (R.toks _) F ⟨_, rfl⟩ h)
theorem TE.str {x : Str} {j pos} (hx : x.length ≤ sizeLine) (h : Q (.str x) σ) : TE X k env (.Constant (.str x) j pos) ρ σ Q := .mk <|
  fun _ _ s _ R F => wpAny_Constant_str (VPost.here (p := .str x) (R.toks _) F ⟨hx, _, rfl⟩ h)
theorem TE.bool {b : Bool} {j pos} (h : Q (.bool b) σ) : TE X k env (.Constant (.bool b) j pos) ρ σ Q := .mk <|
  fun _ _ s _ R F => wpAny_Constant_bool (VPost.here (p := .bool b) R F rfl h)
theorem TE.none' {j pos} (h : Q .none σ) : TE X k env (.Constant .none j pos) ρ σ Q := .mk <|
  fun _ _ s _ R F => wpAny_Constant_none (VPost.here (p := .none) R F rfl h)

/-- reading a name: a list that was being built is frozen -/
noncomputable def seen (p : PV) (σ : Sto) (Q : PV → Sto → Prop) : Prop := match p with
  | .ptr a => (match σ a with | some (.list xs) => Q (.lst xs) (σ.set a none) | _ => Q (.ptr a) σ)
  | p => Q p σ
theorem freeze (T : X.Ok) {W : Map} {s : Shared} {a : Addr} {xs : List PV} (R : HRel X W σ s) (h : σ a = some (.list xs)) :
    ∃ vs n, s.heap.get? a = some (lstObj vs n) ∧ vs.length ≤ sizeLine ∧ VRels W xs vs ∧ HRel X (W.set a (.fro (lstObj vs n))) (σ.set a none) s ∧ Le W (W.set a (.fro (lstObj vs n))) := by
  have hW := (R.cel a _).mp h
  obtain ⟨vs, n, ho, z, q⟩ := R.at' hW
  refine ⟨vs, n, ho, z, q, ?_, ?_⟩
  · have r := R.same T (a := a) (x := .fro (lstObj vs n)) (h' := s.heap) (Heap.SameBut.refl _ _) (by intro o e; rw [hW] at e; cases e) (by rw [hW]; intro e; cases e) (by intro e; cases e) ho s.toks
    exact r
  · exact Le.setCel hW (by intro h; cases h)
theorem seen_ok (T : X.Ok) {W : Map} {s : Shared} {p : PV} {v : Value} (R : HRel X W σ s) (F : FOk W env ρ s.heap) (r : VRel W p v) (h : seen p σ Q) : VPost X W env ρ Q v s := by
  cases p with
  | ptr a =>
    simp only [seen] at h
    split at h
    · rename_i xs hx
      obtain ⟨vs, n, ho, z, q, R', l⟩ := freeze T R hx
      exact ⟨_, .lst xs, _, l, R', F.go l (fun _ _ => rfl), ⟨a, vs, n, r, Map.set_self .., z, q.le l⟩, h⟩
    · exact VPost.here R F r h
  | _ => exact VPost.here R F r h

theorem TE.loc (T : X.Ok) {x : Str} {pos} {p : PV} (hk : env.kindOf x = some .local) (hp : ρ x = some p) (hd : (x == ("__debug__" : Str)) = false) (h : seen p σ Q) : TE X k env (.Name x pos) ρ σ Q := .mk <|
  fun _ W s _ R F => by
    obtain ⟨m, hn, hm⟩ := F.ns
    obtain ⟨v, h1, h2⟩ := hm x p hk hp
    exact wpAny_Name (wpAny_loadName_local F.kind hk hn h1 (seen_ok T R F h2 h)) hd
theorem TE.cell (T : X.Ok) {x : Str} {pos} {p : PV} (hk : env.kindOf x = some .cell) (hp : ρ x = some p) (hd : (x == ("__debug__" : Str)) = false) (h : seen p σ Q) : TE X k env (.Name x pos) ρ σ Q := .mk <|
  fun _ W s _ R F => by
    obtain ⟨c, v, h1, h2, h3⟩ := F.cel x p hk hp
    exact wpAny_Name (wpAny_loadName_cell F.kind hk h1 h2 (seen_ok T R F h3 h)) hd

theorem HRel.keeps (T : X.Ok) {W : Map} {s : Shared} (R : HRel X W σ s) {a : Addr} {o : Obj} (e : X.h₁.get? a = some o) (h : a ∉ X.tabs) : s.heap.get? a = some o := R.fro (R.old a o e h)
theorem HRel.g (T : X.Ok) {W : Map} {s : Shared} (R : HRel X W σ s) : s.heap.Ns mainGlobals X.mg := by
  obtain ⟨o, es, ep, ho, r⟩ := T.g
  exact ⟨o, es, ep, R.keeps T ho (fun h => (T.tabK _ h).2.2.1 rfl), r⟩
theorem HRel.b (T : X.Ok) {W : Map} {s : Shared} (R : HRel X W σ s) : s.heap.Ns builtinsNs X.mb := by
  obtain ⟨o, es, ep, ho, r⟩ := T.b
  exact ⟨o, es, ep, R.keeps T ho (fun h => (T.tabK _ h).2.2.2 rfl), r⟩
theorem HRel.limit (T : X.Ok) {W : Map} {s : Shared} (R : HRel X W σ s) : s.heap.NoLimit := by
  obtain ⟨mc, ⟨o, es, ep, ho, r⟩, q⟩ := T.nolimit
  exact ⟨mc, ⟨o, es, ep, R.keeps T ho (fun h => (T.tabK _ h).2.1 rfl), r⟩, q⟩

/-- what a global name reads as -/
noncomputable def Txt.glob (X : Txt) (x : Str) : Option Value := match X.mg x with
  | some v => some v
  | none => X.mb x
theorem TE.glob (T : X.Ok) {x : Str} {pos} {v : Value} (hk : env.kindOf x = some .globalImplicit) (hv : X.glob x = some v) (hd : (x == ("__debug__" : Str)) = false) (h : Q (.glob v) σ) :
    TE X k env (.Name x pos) ρ σ Q := .mk fun _ W s _ R F => by
  refine Calls.Name_function_global F.kind hk ?_ hd
  unfold Txt.glob at hv
  cases e : X.mg x with
  | some u =>
    rw [e] at hv; cases hv
    exact Calls.loadGlobal_global (by rw [F.glb]; exact R.g T) e (VPost.here (p := .glob v) R F rfl h)
  | none =>
    rw [e] at hv
    exact Calls.loadGlobal_builtin (by rw [F.glb]; exact R.g T) e (by rw [F.blt]; exact R.b T) hv (VPost.here (p := .glob v) R F rfl h)

/-! what comes behind a step: names, not functions, so that a proof's terms stay small -/
noncomputable abbrev kOp (X : Txt) (k : Nat) (f : Value → Value → Sem Value) (Q : PV → Sto → Prop) (a b : PV) (σ : Sto) : Prop := TOp X k (op2 f) [a, b] σ Q
noncomputable abbrev kArg (X : Txt) (k : Nat) (env : Env) (r : Expr) (ρ : Loc) (f : Value → Value → Sem Value) (Q : PV → Sto → Prop) (a : PV) (σ : Sto) : Prop := TE X k env r ρ σ (kOp X k f Q a)
noncomputable abbrev kTru (Q : Bool → Sto → Prop) (p : PV) (σ : Sto) : Prop := ∃ b, tru p = some b ∧ Q b σ
theorem TE.bin (T : X.Ok) {l r : Expr} {op pos} (h : TE X k env l ρ σ (kArg X k env r ρ (binaryOp op) Q)) :
    TE X k env (.BinOp l op r pos) ρ σ Q := .mk fun A W s a R F => by
  refine wpAny_BinOp (wpAny_mono (h.run A W s a R F) (fun v1 s1 h1 => ?_) fun _ _ e => e)
  obtain ⟨W1, p1, σ1, l1, R1, F1, r1, h1⟩ := h1
  refine wpAny_mono (h1.run A W1 s1 a R1 F1) (fun v2 s2 h2 => ?_) fun _ _ e => e
  obtain ⟨W2, p2, σ2, l2, R2, F2, r2, h2⟩ := h2
  exact wpAny_mono (lift T h2 a R2 F2 (vs := [v1, v2]) ⟨v1, _, rfl, r1.le l2, v2, _, rfl, r2, rfl⟩) (fun _ _ q => (q.le l2).le l1) fun _ _ e => e
theorem TE.cmp (T : X.Ok) {l r : Expr} {op pos} (hm : behindInMarks op r = false) (h : TE X k env l ρ σ (kArg X k env r ρ (compareOp op) Q)) :
    TE X k env (.Compare l [op] [r] pos) ρ σ Q := .mk fun A W s a R F => by
  refine wpAny_Compare1 (wpAny_mono (h.run A W s a R F) (fun v1 s1 h1 => ?_) fun _ _ e => e) hm
  obtain ⟨W1, p1, σ1, l1, R1, F1, r1, h1⟩ := h1
  refine wpAny_mono (h1.run A W1 s1 a R1 F1) (fun v2 s2 h2 => ?_) fun _ _ e => e
  obtain ⟨W2, p2, σ2, l2, R2, F2, r2, h2⟩ := h2
  exact wpAny_mono (lift T h2 a R2 F2 (vs := [v1, v2]) ⟨v1, _, rfl, r1.le l2, v2, _, rfl, r2, rfl⟩) (fun _ _ q => (q.le l2).le l1) fun _ _ e => e
/-- one of two, by a truth: a structure, so that nothing unfolds it -/
structure Br (c : Bool) (P R : Prop) : Prop where
  t : c = true → P
  f : c = false → R
theorem Br.yes {P R : Prop} (h : P) : Br true P R := ⟨fun _ => h, fun e => (by cases e)⟩
theorem Br.not {P R : Prop} (h : R) : Br false P R := ⟨fun e => (by cases e), fun _ => h⟩
theorem Br.id {c : Bool} {P R : Prop} (h : Br c P R) : Br c P R := h
theorem Br.imp {c : Bool} {P R P' R' : Prop} (h : Br c P R) (p : P → P') (r : R → R') : Br c P' R' := ⟨fun e => p (h.t e), fun e => r (h.f e)⟩
noncomputable abbrev kIfE (X : Txt) (k : Nat) (env : Env) (b o : Expr) (ρ : Loc) (Q : PV → Sto → Prop) (c : Bool) (σ : Sto) : Prop := Br c (TE X k env b ρ σ Q) (TE X k env o ρ σ Q)
theorem TE.ifExp {t b o : Expr} {pos} (h : TT X k env t ρ σ (kIfE X k env b o ρ Q)) : TE X k env (.IfExp t b o pos) ρ σ Q := .mk fun A W s a R F => by
  refine wpAny_IfExp (wpAny_mono (h.run A W s a R F) (fun c s1 h1 => ?_) fun _ _ e => e)
  obtain ⟨W1, σ1, l1, R1, F1, h1⟩ := h1
  cases c
  · exact wpAny_mono ((h1.f rfl).run A W1 s1 a R1 F1) (fun _ _ q => q.le l1) fun _ _ e => e
  · exact wpAny_mono ((h1.t rfl).run A W1 s1 a R1 F1) (fun _ _ q => q.le l1) fun _ _ e => e

noncomputable abbrev kCons (Q : List PV → Sto → Prop) (p : PV) (ps : List PV) (σ : Sto) : Prop := Q (p :: ps) σ
noncomputable abbrev kEs (T : Sto → (List PV → Sto → Prop) → Prop) (Q : List PV → Sto → Prop) (p : PV) (σ : Sto) : Prop := T σ (kCons Q p)
noncomputable abbrev kTup (Q : PV → Sto → Prop) (ps : List PV) (σ : Sto) : Prop := ps.length ≤ sizeLine ∧ Q (.tup ps) σ
noncomputable abbrev kLst (Q : PV → Sto → Prop) (ps : List PV) (σ : Sto) : Prop := ps.length ≤ sizeLine ∧ Q (.lst ps) σ
noncomputable abbrev kLstP (Q : PV → Sto → Prop) (ps : List PV) (σ : Sto) : Prop := ps.length ≤ sizeLine ∧ ∀ a, σ a = none → Q (.ptr a) (σ.set a (some (.list ps)))
noncomputable abbrev kAnd (T : Sto → (Bool → Sto → Prop) → Prop) (Q : Bool → Sto → Prop) (b : Bool) (σ : Sto) : Prop := Br b (T σ Q) (Q false σ)
noncomputable abbrev kOr (T : Sto → (Bool → Sto → Prop) → Prop) (Q : Bool → Sto → Prop) (b : Bool) (σ : Sto) : Prop := Br b (Q true σ) (T σ Q)
noncomputable abbrev kNot (Q : Bool → Sto → Prop) (b : Bool) (σ : Sto) : Prop := Q (!b) σ
noncomputable abbrev kOr2 (X : Txt) (k : Nat) (env : Env) (y : Expr) (ρ : Loc) (Q : PV → Sto → Prop) (p : PV) (σ : Sto) : Prop := ∃ b, tru p = some b ∧ Br b (Q p σ) (TE X k env y ρ σ Q)
noncomputable abbrev kAnd2 (X : Txt) (k : Nat) (env : Env) (y : Expr) (ρ : Loc) (Q : PV → Sto → Prop) (p : PV) (σ : Sto) : Prop := ∃ b, tru p = some b ∧ Br b (TE X k env y ρ σ Q) (Q p σ)
noncomputable def TEs (X : Txt) (k : Nat) (env : Env) : List Expr → Loc → Sto → (List PV → Sto → Prop) → Prop
  | [], _, σ, Q => Q [] σ
  | e :: es, ρ, σ, Q => TE X k env e ρ σ (kEs (TEs X k env es ρ) Q)
noncomputable def noStar : List Expr → Bool
  | [] => true
  | .Starred .. :: _ => false
  | _ :: r => noStar r
theorem starEach_cons {e : Expr} {es : List Expr} (h : noStar (e :: es) = true) : starEach (e :: es) env = (false, eval e env) :: starEach es env ∧ noStar es = true := by
  cases e <;> first | exact ⟨rfl, h⟩ | cases h
theorem TEs.ok {pos : Pos} : ∀ {es : List Expr} {σ : Sto} {Q : List PV → Sto → Prop}, noStar es = true → TEs X k env es ρ σ Q → ∀ A W s, AOk k A → HRel X W σ s → FOk W env ρ s.heap →
    wpAny X.M A (spliced (backTo pos (starEach es env))) (LPost X W env ρ Q) (fun _ _ => False) s
  | [], σ, Q, _, h, A, W, s, a, R, F => wpAny_pure ⟨W, [], σ, Le.refl W, R, F, rfl, h⟩
  | e :: es, σ, Q, hn, h, A, W, s, a, R, F => by
    obtain ⟨he, hn'⟩ := starEach_cons (env := env) hn
    rw [he]
    refine Calls.spliced_cons (wpAny_mono (h.run A W s a R F) (fun v1 s1 h1 => ?_) fun _ _ e => e)
    obtain ⟨W1, p1, σ1, l1, R1, F1, r1, h1⟩ := h1
    refine wpAny_mono (TEs.ok hn' h1 A W1 s1 a R1 F1) (fun vs s2 h2 => ?_) fun _ _ e => e
    obtain ⟨W2, ps, σ2, l2, R2, F2, r2, h2⟩ := h2
    exact ⟨W2, p1 :: ps, σ2, l1.trans l2, R2, F2, ⟨_, _, rfl, r1.le l2, r2⟩, h2⟩

theorem TE.tup (T : X.Ok) {es : List Expr} {j pos} (hn : noStar es = true) (hl : es.length ≤ 100) (h : TEs X k env es ρ σ (kTup Q)) : TE X k env (.Tuple es j pos) ρ σ Q := .mk fun A W s a R F => by
  refine wpAny_Tuple (wpAny_mono (TEs.ok hn h A W s a R F) (fun vs s1 h1 => ?_) fun _ _ e => e)
  obtain ⟨W1, ps, σ1, l1, R1, F1, r1, z, h1⟩ := h1
  have z' : vs.length ≤ sizeLine := by rw [r1.length]; exact z
  refine ⟨z', ?_⟩
  have l2 := R1.le_set (.fro (tupObj vs 0))
  exact ⟨_, .tup ps, σ1, l1.trans l2, R1.pushFro T rfl s1.toks, FOk.push T R1 F1 _ _, ⟨_, vs, 0, rfl, Map.set_self .., z', r1.le l2⟩, h1⟩
/-- a list display that no name bears: frozen at once -/
theorem TE.lst (T : X.Ok) {es : List Expr} {pos} (hn : noStar es = true) (h : TEs X k env es ρ σ (kLst Q)) : TE X k env (.List es pos) ρ σ Q := .mk fun A W s a R F => by
  refine wpAny_List (wpAny_mono (TEs.ok hn h A W s a R F) (fun vs s1 h1 => ?_) fun _ _ e => e)
  obtain ⟨W1, ps, σ1, l1, R1, F1, r1, z, h1⟩ := h1
  have z' : vs.length ≤ sizeLine := by rw [r1.length]; exact z
  refine ⟨z', ?_⟩
  have l2 := R1.le_set (.fro (lstObj vs 0))
  exact ⟨_, .lst ps, σ1, l1.trans l2, R1.pushFro T rfl s1.toks, FOk.push T R1 F1 _ _, ⟨_, vs, 0, rfl, Map.set_self .., z', r1.le l2⟩, h1⟩
/-- a list display that a name is to bear: it may grow -/
theorem TE.lstPtr (T : X.Ok) {es : List Expr} {pos} (hn : noStar es = true) (h : TEs X k env es ρ σ (kLstP Q)) : TE X k env (.List es pos) ρ σ Q := .mk fun A W s a R F => by
  refine wpAny_List (wpAny_mono (TEs.ok hn h A W s a R F) (fun vs s1 h1 => ?_) fun _ _ e => e)
  obtain ⟨W1, ps, σ1, l1, R1, F1, r1, z, h1⟩ := h1
  have z' : vs.length ≤ sizeLine := by rw [r1.length]; exact z
  refine ⟨z', ?_⟩
  have l2 := R1.le_set (.cel (.list ps))
  have hnone : σ1 s1.heap.objs.size = none := by
    cases e : σ1 s1.heap.objs.size with
    | none => rfl
    | some c => have := (R1.cel _ _).mp e; rw [R1.new] at this; cases this
  refine ⟨_, .ptr _, _, l1.trans l2, R1.pushCel T (o := lstObj vs 0) (c := .list ps) ⟨vs, 0, Heap.get?_push_size _ rfl, z', r1.le l2⟩ s1.toks, FOk.push T R1 F1 _ _, rfl, h1 _ hnone⟩

/-! truth of expressions -/
theorem TT.val (T : X.Ok) {e : Expr} {Q : Bool → Sto → Prop} (he : isTrue e env (eval e env) = (do let v ← eval e env; standAt e.pos; holding [v] (truthy v)))
    (h : TE X k env e ρ σ (kTru Q)) : TT X k env e ρ σ Q := .mk fun A W s a R F => by
  refine wpAny_isTrue_value (wpAny_mono (h.run A W s a R F) (fun v s1 h1 => ?_) fun _ _ e => e) he
  obtain ⟨W1, p, σ1, l1, R1, F1, r1, b, hb, h1⟩ := h1
  exact truthy_ok R1 r1 hb fun t => ⟨W1, σ1, l1, R1.toks t, F1, h1⟩
theorem TT.not {e : Expr} {pos} {Q : Bool → Sto → Prop} (h : TT X k env e ρ σ (kNot Q)) : TT X k env (.UnaryOp .Not e pos) ρ σ Q := .mk fun A W s a R F =>
  wpAny_isTrue_Not (wpAny_mono (h.run A W s a R F) (fun _ _ ⟨W', σ', l, R, F, q⟩ => ⟨W', σ', l, R, F, q⟩) fun _ _ e => e)
theorem TT.cmp (T : X.Ok) {l r : Expr} {op pos} {Q : Bool → Sto → Prop} (hm : behindInMarks op r = false)
    (h : TE X k env l ρ σ (kArg X k env r ρ (compareOp op) (kTru Q))) :
    TT X k env (.Compare l [op] [r] pos) ρ σ Q := .mk fun A W s a R F => by
  refine wpAny_isTrue_Compare1 (wpAny_mono (h.run A W s a R F) (fun v1 s1 h1 => ?_) fun _ _ e => e) hm
  obtain ⟨W1, p1, σ1, l1, R1, F1, r1, h1⟩ := h1
  refine wpAny_mono (h1.run A W1 s1 a R1 F1) (fun v2 s2 h2 => ?_) fun _ _ e => e
  obtain ⟨W2, p2, σ2, l2, R2, F2, r2, h2⟩ := h2
  refine wpAny_mono (lift T h2 a R2 F2 (vs := [v1, v2]) ⟨v1, _, rfl, r1.le l2, v2, _, rfl, r2, rfl⟩) (fun v3 s3 h3 => ?_) fun _ _ e => e
  obtain ⟨W3, p3, σ3, l3, R3, F3, r3, b, hb, h3⟩ := h3
  exact truthy_ok R3 r3 hb fun t => ⟨W3, σ3, (l1.trans l2).trans l3, R3.toks t, F3, h3⟩
noncomputable def TTAnd (X : Txt) (k : Nat) (env : Env) : List Expr → Loc → Sto → (Bool → Sto → Prop) → Prop
  | [], _, σ, Q => Q true σ
  | e :: es, ρ, σ, Q => TT X k env e ρ σ (kAnd (TTAnd X k env es ρ) Q)
noncomputable def TTOr (X : Txt) (k : Nat) (env : Env) : List Expr → Loc → Sto → (Bool → Sto → Prop) → Prop
  | [], _, σ, Q => Q false σ
  | e :: es, ρ, σ, Q => TT X k env e ρ σ (kOr (TTOr X k env es ρ) Q)
theorem TTAnd.ok : ∀ {es : List Expr} {σ : Sto} {Q : Bool → Sto → Prop}, TTAnd X k env es ρ σ Q → ∀ A W s, AOk k A → HRel X W σ s → FOk W env ρ s.heap →
    wpAny X.M A (allTrue .And es env) (BPost X W env ρ Q) (fun _ _ => False) s
  | [], σ, Q, h, A, W, s, a, R, F => wpAny_allTrue_And_nil ⟨W, σ, Le.refl W, R, F, h⟩
  | e :: es, σ, Q, h, A, W, s, a, R, F => by
    refine wpAny_allTrue_And_cons (wpAny_mono (h.run A W s a R F) (fun b s1 h1 => ?_) fun _ _ e => e)
    obtain ⟨W1, σ1, l1, R1, F1, h1⟩ := h1
    cases b
    · exact ⟨W1, σ1, l1, R1, F1, h1.f rfl⟩
    · exact wpAny_mono (TTAnd.ok (h1.t rfl) A W1 s1 a R1 F1) (fun _ _ q => q.le l1) fun _ _ e => e
theorem wpAny_allTrue_Or_cons' {M : Model} {A : Around} {E : Value → Shared → Prop} {s : Shared} {x : Expr} {rest : List Expr} {Q : Bool → Shared → Prop}
    (h : wpAny M A (isTrue x env (eval x env)) (fun b s₁ => if b then Q true s₁ else wpAny M A (allTrue .Or rest env) Q E s₁) E s) : wpAny M A (allTrue .Or (x :: rest) env) Q E s := by
  show wpAny M A (do match BoolOp.Or, ← isTrue x env (eval x env) with | .And, false => pure false | .Or, true => pure true | _, _ => allTrue .Or rest env) Q E s
  refine wpAny_bind (wpAny_mono h (fun b s₁ h₁ => ?_) fun _ _ x => x)
  cases b
  · exact h₁
  · exact wpAny_pure h₁
theorem TTOr.ok : ∀ {es : List Expr} {σ : Sto} {Q : Bool → Sto → Prop}, TTOr X k env es ρ σ Q → ∀ A W s, AOk k A → HRel X W σ s → FOk W env ρ s.heap →
    wpAny X.M A (allTrue .Or es env) (BPost X W env ρ Q) (fun _ _ => False) s
  | [], σ, Q, h, A, W, s, a, R, F => wpAny_allTrue_Or_nil ⟨W, σ, Le.refl W, R, F, h⟩
  | e :: es, σ, Q, h, A, W, s, a, R, F => by
    refine wpAny_allTrue_Or_cons' (wpAny_mono (h.run A W s a R F) (fun b s1 h1 => ?_) fun _ _ e => e)
    obtain ⟨W1, σ1, l1, R1, F1, h1⟩ := h1
    cases b
    · exact wpAny_mono (TTOr.ok (h1.f rfl) A W1 s1 a R1 F1) (fun _ _ q => q.le l1) fun _ _ e => e
    · exact ⟨W1, σ1, l1, R1, F1, h1.t rfl⟩
theorem TT.and {es : List Expr} {pos} {Q : Bool → Sto → Prop} (h : TTAnd X k env es ρ σ Q) : TT X k env (.BoolOp .And es pos) ρ σ Q := .mk fun A W s a R F => wpAny_isTrue_BoolOp (TTAnd.ok h A W s a R F)
theorem TT.or {es : List Expr} {pos} {Q : Bool → Sto → Prop} (h : TTOr X k env es ρ σ Q) : TT X k env (.BoolOp .Or es pos) ρ σ Q := .mk fun A W s a R F => wpAny_isTrue_BoolOp (TTOr.ok h A W s a R F)

/-! `x or y` as a value -/
theorem TE.or2 (T : X.Ok) {x y : Expr} {pos} (h : TE X k env x ρ σ (kOr2 X k env y ρ Q)) : TE X k env (.BoolOp .Or [x, y] pos) ρ σ Q := .mk fun A W s a R F => by
  refine wpAny_Or2 (wpAny_mono (h.run A W s a R F) (fun v s1 h1 => ?_) fun _ _ e => e)
  obtain ⟨W1, p, σ1, l1, R1, F1, r1, b, hb, h1⟩ := h1
  refine truthy_ok R1 r1 hb fun t => ?_
  cases b
  · exact wpAny_mono ((h1.f rfl).run A W1 _ a (R1.toks t) F1) (fun _ _ q => q.le l1) fun _ _ e => e
  · exact ⟨W1, p, σ1, l1, R1.toks t, F1, r1, h1.t rfl⟩
theorem TE.and2 (T : X.Ok) {x y : Expr} {pos} (h : TE X k env x ρ σ (kAnd2 X k env y ρ Q)) : TE X k env (.BoolOp .And [x, y] pos) ρ σ Q := .mk fun A W s a R F => by
  refine wpAny_And2 (wpAny_mono (h.run A W s a R F) (fun v s1 h1 => ?_) fun _ _ e => e)
  obtain ⟨W1, p, σ1, l1, R1, F1, r1, b, hb, h1⟩ := h1
  refine truthy_ok R1 r1 hb fun t => ?_
  cases b
  · exact ⟨W1, p, σ1, l1, R1.toks t, F1, r1, h1.f rfl⟩
  · exact wpAny_mono ((h1.t rfl).run A W1 _ a (R1.toks t) F1) (fun _ _ q => q.le l1) fun _ _ e => e
end
end Mine

end
section
open PySem PySem.W PyProof.Rows
set_option Elab.async false
set_option linter.unusedVariables false
namespace Mine
variable {X : Txt}

theorem HRel.ext (T : X.Ok) {W : Map} {σ : Sto} {s : Shared} {h' : Heap} (R : HRel X W σ s) (e : ∀ b o, s.heap.get? b = some o → h'.get? b = some o) (t : Nat) : HRel X W σ { s with heap := h', toks := t } :=
  ⟨fun a => (R.ok a).mono T (fun _ _ h => h) (e a), R.old, R.tab, R.cel, R.os, R.gens⟩
theorem FOk.ext {W : Map} {σ : Sto} {env : Env} {ρ : Loc} {s : Shared} {h' : Heap} (R : HRel X W σ s) (F : FOk W env ρ s.heap) (e : ∀ b o, s.heap.get? b = some o → h'.get? b = some o) : FOk W env ρ h' :=
  F.go (Le.refl W) fun b hb => by
    have hs : W b ≠ .no := by rcases hb with e | ⟨o, e⟩ <;> rw [e] <;> intro h <;> cases h
    obtain ⟨o', ho⟩ := (R.ok b).some hs
    rw [ho]; exact e _ _ ho

/-- any tree that touches no frame -/
theorem liftG (T : X.Ok) {α : Type} {A : Around} {W : Map} {env : Env} {ρ : Loc} {σ : Sto} {s : Shared} {t : Sem α} {P : Map → Sto → α → Prop}
    (h : wpAny X.M A t (fun v s' => ∃ W' σ', Le (hideOwn W s.heap) W' ∧ HRel X W' σ' s' ∧ P W' σ' v) (fun _ _ => False) s) (R : HRel X W σ s) (F : FOk W env ρ s.heap) :
    wpAny X.M A t (fun v s' => ∃ W' W'' σ', Le W W'' ∧ HRel X W'' σ' s' ∧ FOk W'' env ρ s'.heap ∧ (∀ a o, W' a = .fro o → W'' a = .fro o) ∧ P W' σ' v) (fun _ _ => False) s := by
  refine wpAny_mono h (fun v s' hv => ?_) fun _ _ e => e
  obtain ⟨W', σ', l, R', p⟩ := hv
  exact ⟨W', backOwn W W', σ', Le.back l, HRel.back T R l R', FOk.back R F l R', fun _ _ e => (back_fro R l).mpr e, p⟩

inductive Ctl where
  | next
  | brk
  | cont
  | ret (p : PV)
noncomputable def CRel (W : Map) : Ctl → Flow → Prop
  | .next, f => f = .next
  | .brk, f => f = .brk
  | .cont, f => f = .cont
  | .ret p, f => ∃ v, f = .ret v ∧ VRel W p v

variable (X) in
inductive SPost (W : Map) (env : Env) (Q : Ctl → Loc → Sto → Prop) (f : Flow) (s' : Shared) : Prop
  | mk (W' : Map) (c : Ctl) (ρ' : Loc) (σ' : Sto) (l : Le W W') (R : HRel X W' σ' s') (F : FOk W' env ρ' s'.heap) (r : CRel W' c f) (q : Q c ρ' σ')
variable (X) in
inductive UPost (W : Map) (env : Env) (Q : Loc → Sto → Prop) (s' : Shared) : Prop
  | mk (W' : Map) (ρ' : Loc) (σ' : Sto) (l : Le W W') (R : HRel X W' σ' s') (F : FOk W' env ρ' s'.heap) (q : Q ρ' σ')
theorem SPost.le {W W1 : Map} {env : Env} {Q : Ctl → Loc → Sto → Prop} {f : Flow} {s : Shared} (l : Le W W1) (h : SPost X W1 env Q f s) : SPost X W env Q f s :=
  let ⟨W', c, ρ', σ', l', R, F, r, q⟩ := h; ⟨W', c, ρ', σ', l.trans l', R, F, r, q⟩
theorem UPost.le {W W1 : Map} {env : Env} {Q : Loc → Sto → Prop} {s : Shared} (l : Le W W1) (h : UPost X W1 env Q s) : UPost X W env Q s :=
  let ⟨W', ρ', σ', l', R, F, q⟩ := h; ⟨W', ρ', σ', l.trans l', R, F, q⟩

variable (X) in
/-- a statement -/
structure T1 (k : Nat) (env : Env) (st : Stmt) (ρ : Loc) (σ : Sto) (Q : Ctl → Loc → Sto → Prop) : Prop where
  run : ∀ A W s, AOk k A → HRel X W σ s → FOk W env ρ s.heap → wpAny X.M A (exec st env) (SPost X W env Q) (fun _ _ => False) s
variable (X) in
/-- statements, one behind the other -/
structure TS (k : Nat) (env : Env) (ss : List Stmt) (ρ : Loc) (σ : Sto) (Q : Ctl → Loc → Sto → Prop) : Prop where
  run : ∀ A W s, AOk k A → HRel X W σ s → FOk W env ρ s.heap → wpAny X.M A (execs ss env) (SPost X W env Q) (fun _ _ => False) s
variable (X) in
/-- a value goes to a target -/
structure TAsg (k : Nat) (env : Env) (tg : Expr) (p : PV) (ρ : Loc) (σ : Sto) (Q : Loc → Sto → Prop) : Prop where
  run : ∀ A W s v, AOk k A → HRel X W σ s → FOk W env ρ s.heap → VRel W p v → wpAny X.M A (assign tg env v) (fun _ s' => UPost X W env Q s') (fun _ _ => False) s

section
variable {k : Nat} {env : Env} {ρ : Loc} {σ : Sto} {Q : Ctl → Loc → Sto → Prop}

theorem TS.nil (h : Q .next ρ σ) : TS X k env [] ρ σ Q := .mk fun _ W _ _ R F => wpAny_execs_nil ⟨W, .next, ρ, σ, Le.refl W, R, F, rfl, h⟩
noncomputable abbrev kSeq (X : Txt) (k : Nat) (env : Env) (ss : List Stmt) (Q : Ctl → Loc → Sto → Prop) (c : Ctl) (ρ : Loc) (σ : Sto) : Prop := match c with
  | .next => TS X k env ss ρ σ Q
  | c => Q c ρ σ
theorem TS.cons {st : Stmt} {ss : List Stmt} (h : T1 X k env st ρ σ (kSeq X k env ss Q)) : TS X k env (st :: ss) ρ σ Q := .mk fun A W s a R F => by
  refine wpAny_execs_cons (wpAny_mono (h.run A W s a R F) (fun f s1 h1 => ?_) fun _ _ e => e)
  obtain ⟨W1, c, ρ1, σ1, l1, R1, F1, rc, h1⟩ := h1
  cases c with
  | next => cases rc; exact wpAny_mono (h1.run A W1 s1 a R1 F1) (fun _ _ q => q.le l1) fun _ _ e => e
  | brk => cases rc; exact ⟨W1, .brk, ρ1, σ1, l1, R1, F1, rfl, h1⟩
  | cont => cases rc; exact ⟨W1, .cont, ρ1, σ1, l1, R1, F1, rfl, h1⟩
  | ret p => obtain ⟨v, rfl, rv⟩ := rc; exact ⟨W1, .ret p, ρ1, σ1, l1, R1, F1, ⟨v, rfl, rv⟩, h1⟩

/-- a name of the frame's that may be stored -/
noncomputable def stores (env : Env) (x : Str) : Prop := env.kindOf x = some .local ∨ (env.kindOf x = some .cell ∧ env.func.isSome = true)
theorem store_ok (T : X.Ok) {A : Around} {W : Map} {s : Shared} {x : Str} {p : PV} {v : Value} {E : Value → Shared → Prop} (R : HRel X W σ s) (F : FOk W env ρ s.heap) (r : VRel W p v) (hx : stores env x)
    {Q : Unit → Shared → Prop} (h : ∀ s', HRel X W σ s' → FOk W env (ρ.set x p) s'.heap → Q () s') : wpAny X.M A (storeName env x v) Q E s := by
  have hsc : (env.scope.kind == .class || (env.scope.kind == .module && env.locals != env.globals)) = false := by rw [F.kind]; rfl
  rcases hx with hx | ⟨hx, hf⟩
  · obtain ⟨m, hn, hm⟩ := F.ns
    refine wpAny_storeName_local hx hn (fun h' hn' hs => ?_) hsc
    obtain ⟨o, es, ep, ho, _⟩ := id hn'
    refine h _ (R.ownSet T hs F.ownL ho _) ?_
    refine ⟨F.kind, F.glb, F.blt, F.ownL, ⟨_, hn', fun y q hy hq => ?_⟩, fun y q hy hq => ?_, fun y hy => ?_, F.celO, F.celA⟩
    · unfold Loc.set at hq
      by_cases e : y = x
      · subst e; rw [if_pos rfl] at hq; cases hq; exact ⟨v, by simp, r⟩
      · rw [if_neg e] at hq
        obtain ⟨u, h1, h2⟩ := hm y q hy hq
        exact ⟨u, by simp [e, h1], h2⟩
    · unfold Loc.set at hq
      have e : y ≠ x := by rintro rfl; rw [hx] at hy; cases hy
      rw [if_neg e] at hq
      obtain ⟨c, u, h1, h2, h3⟩ := F.cel y q hy hq
      obtain ⟨c', ov, g1, g2, _⟩ := F.celW y hy
      rw [h1] at g1; cases g1
      exact ⟨c, u, h1, h2.sameBut hs g2, h3⟩
    · obtain ⟨c, ov, g1, g2, g3, g4⟩ := F.celW y hy
      exact ⟨c, ov, g1, g2, g3.sameBut hs g2, g4⟩
  · obtain ⟨c, ov, g1, g2, g3, g4⟩ := F.celW x hx
    have hW := F.celO hf x c hx g1
    refine wpAny_storeName_cell F.kind hx g1 g3 fun h' hv hs => ?_
    obtain ⟨o, ho, _⟩ := id hv
    refine h _ (R.ownSet T hs hW ho _) ?_
    obtain ⟨m, hn, hm⟩ := F.ns
    refine ⟨F.kind, F.glb, F.blt, F.ownL, ⟨m, hn.sameBut hs (Ne.symm g2), fun y q hy hq => ?_⟩, fun y q hy hq => ?_, fun y hy => ?_, F.celO, F.celA⟩
    · unfold Loc.set at hq
      have e : y ≠ x := by rintro rfl; rw [hx] at hy; cases hy
      rw [if_neg e] at hq
      exact hm y q hy hq
    · unfold Loc.set at hq
      by_cases e : y = x
      · subst e; rw [if_pos rfl] at hq; cases hq; exact ⟨c, v, g1, hv, r⟩
      · rw [if_neg e] at hq
        obtain ⟨c', u, h1, h2, h3⟩ := F.cel y q hy hq
        exact ⟨c', u, h1, h2.sameBut hs (fun q => e (F.celA _ _ _ h1 (q ▸ g1))), h3⟩
    · by_cases e : y = x
      · subst e; exact ⟨c, some v, g1, g2, hv, .inl hW⟩
      · obtain ⟨c', ov', k1, k2, k3, k4⟩ := F.celW y hy
        exact ⟨c', ov', k1, k2, k3.sameBut hs (fun q => e (F.celA _ _ _ k1 (q ▸ g1))), k4⟩

theorem TAsg.name (T : X.Ok) {x : Str} {pos} {p : PV} {Q : Loc → Sto → Prop} (hx : stores env x) (h : Q (ρ.set x p) σ) : TAsg X k env (.Name x pos) p ρ σ Q := .mk fun A W s v a R F r =>
  wpAny_assign_Name (store_ok T R F r hx fun s' R' F' => ⟨W, _, σ, Le.refl W, R', F', h⟩)

/-- several targets in order -/
noncomputable abbrev kAs (T : Loc → Sto → (Loc → Sto → Prop) → Prop) (Q : Loc → Sto → Prop) (ρ : Loc) (σ : Sto) : Prop := T ρ σ Q
noncomputable def TAsgs (X : Txt) (k : Nat) (env : Env) : List Expr → List PV → Loc → Sto → (Loc → Sto → Prop) → Prop
  | [], [], ρ, σ, Q => Q ρ σ
  | e :: es, p :: ps, ρ, σ, Q => TAsg X k env e p ρ σ (kAs (TAsgs X k env es ps) Q)
  | _, _, _, _, _ => False
theorem assignEach_cons {e : Expr} {es : List Expr} (h : noStar (e :: es) = true) : assignEach (e :: es) env = (false, assign e env) :: assignEach es env ∧ noStar es = true := by
  cases e <;> first | exact ⟨rfl, h⟩ | cases h
theorem TAsgs.ok : ∀ {es : List Expr} {ps : List PV} {ρ : Loc} {σ : Sto} {Q : Loc → Sto → Prop}, noStar es = true → TAsgs X k env es ps ρ σ Q → ∀ A W s vs, AOk k A → HRel X W σ s → FOk W env ρ s.heap → VRels W ps vs →
    wpAny X.M A (assignInOrder ((assignEach es env).map (·.2)) vs) (fun _ s' => UPost X W env Q s') (fun _ _ => False) s
  | [], [], ρ, σ, Q, _, h, A, W, s, vs, a, R, F, r => by cases r; exact wpAny_pure ⟨W, ρ, σ, Le.refl W, R, F, h⟩
  | e :: es, p :: ps, ρ, σ, Q, hn, h, A, W, s, _, a, R, F, ⟨v, vs, rfl, r, rs⟩ => by
    obtain ⟨he, hn'⟩ := assignEach_cons (env := env) hn
    rw [he]
    refine wpAny_assignInOrder_more (wpAny_mono (h.run A W s v a R F r) (fun _ s1 h1 => ?_) fun _ _ e => e)
    obtain ⟨W1, ρ1, σ1, l1, R1, F1, h1⟩ := h1
    exact wpAny_mono (TAsgs.ok hn' h1 A W1 s1 vs a R1 F1 (rs.le l1)) (fun _ _ q => q.le l1) fun _ _ e => e
  | [], _ :: _, _, _, _, _, h, _, _, _, _, _, _, _, _ => h.elim
  | _ :: _, [], _, _, _, _, h, _, _, _, _, _, _, _, _ => h.elim
theorem TAsgs.len : ∀ {es : List Expr} {ps : List PV} {ρ : Loc} {σ : Sto} {Q : Loc → Sto → Prop}, TAsgs X k env es ps ρ σ Q → (es.length = ps.length ∨ ∃ ρ σ Q, es.length = ps.length ∧ TAsgs X k env es ps ρ σ Q) ∨ True := fun _ => .inr trivial
theorem assignEach_len : ∀ {es : List Expr}, noStar es = true → (assignEach es env).length = es.length ∧ (assignEach es env).findIdx? (·.1) = none
  | [], _ => ⟨rfl, rfl⟩
  | e :: es, h => by
    obtain ⟨he, hn'⟩ := assignEach_cons (env := env) h
    obtain ⟨a, b⟩ := assignEach_len (es := es) hn'
    rw [he]
    refine ⟨by simp [a], ?_⟩
    rw [List.findIdx?_cons, b]; rfl
theorem TAsg.tuple (T : X.Ok) {es : List Expr} {j pos} {ps : List PV} {Q : Loc → Sto → Prop} (hn : noStar es = true) (hl : es.length = ps.length) (h : TAsgs X k env es ps ρ σ Q) : TAsg X k env (.Tuple es j pos) (.tup ps) ρ σ Q := .mk fun A W s v a R F r => by
  obtain ⟨t, vs, rfl, ht, z, rs⟩ := VRel.isTup R r
  obtain ⟨a1, a2⟩ := assignEach_len (env := env) hn
  refine wpAny_assign_Tuple a.handled ht (by rw [a1, List.size_toArray, rs.length]; exact hl) a2 fun h' hx => ?_
  have keep : ∀ b o, s.heap.get? b = some o → h'.get? b = some o := fun b o e => hx b o (Nat.ne_of_lt (Heap.lt_size e)) e
  exact TAsgs.ok hn h A W _ vs a (R.ext T keep s.toks) (FOk.ext R F keep) rs

/-! values that are no comprehension, no tuple display -/
noncomputable def plainVal : Expr → Bool
  | .ListComp .. | .SetComp .. | .DictComp .. | .Tuple .. => false
  | _ => true
theorem swaps_plain {e : Expr} {t : Option Expr} {n : Nat} (h : plainVal e = true) : swapsWith e t n env = pure false := by
  cases e <;> first | rfl | cases h
theorem swapsSole_plain {e : Expr} {ts : List Expr} {n : Nat} (h : plainVal e = true) : swapsWithSole ts e n env = pure false := by
  cases ts with
  | nil => rfl
  | cons t r => cases r with
    | nil => exact swaps_plain h
    | cons _ _ => rfl
theorem swapped_plain {e t : Expr} (h : plainVal e = true) : swappedStores [t] e env = pure none := by
  cases t <;> first | rfl | (cases e <;> first | rfl | cases h)

noncomputable abbrev kNext (Q : Ctl → Loc → Sto → Prop) (ρ : Loc) (σ : Sto) : Prop := Q .next ρ σ
noncomputable abbrev kAsg (X : Txt) (k : Nat) (env : Env) (tg : Expr) (ρ : Loc) (Q : Ctl → Loc → Sto → Prop) (p : PV) (σ : Sto) : Prop := TAsg X k env tg p ρ σ (kNext Q)
noncomputable abbrev kExpr (ρ : Loc) (Q : Ctl → Loc → Sto → Prop) (_ : PV) (σ : Sto) : Prop := Q .next ρ σ
noncomputable abbrev kRet (ρ : Loc) (Q : Ctl → Loc → Sto → Prop) (p : PV) (σ : Sto) : Prop := Q (.ret p) ρ σ
noncomputable abbrev kSet (ρ : Loc) (x : Str) (Q : Ctl → Loc → Sto → Prop) (p : PV) (σ : Sto) : Prop := Q .next (ρ.set x p) σ
noncomputable abbrev kIfS (X : Txt) (k : Nat) (env : Env) (b o : List Stmt) (ρ : Loc) (Q : Ctl → Loc → Sto → Prop) (c : Bool) (σ : Sto) : Prop := Br c (TS X k env b ρ σ Q) (TS X k env o ρ σ Q)
theorem T1.assign (T : X.Ok) {tg e : Expr} {pos} (hv : plainVal e = true) (ht : noStar [tg] = true) (h : TE X k env e ρ σ (kAsg X k env tg ρ Q)) : T1 X k env (.Assign [tg] e pos) ρ σ Q := .mk fun A W s a R F => by
  refine wpAny_Assign_stores (wpAny_mono (h.run A W s a R F) (fun v s1 h1 => ?_) fun _ _ e => e) (swapsSole_plain hv) (swapped_plain hv)
  obtain ⟨W1, p, σ1, l1, R1, F1, r1, h1⟩ := h1
  obtain ⟨he, _⟩ := assignEach_cons (env := env) ht
  have e : assignAll v ((assignEach [tg] env).map (·.2)) = PySem.assign tg env v := by rw [he]; rfl
  rw [e]
  refine wpAny_mono (h1.run A W1 s1 v a R1 F1 r1) (fun _ s2 h2 => ?_) fun _ _ e => e
  obtain ⟨W2, ρ2, σ2, l2, R2, F2, h2⟩ := h2
  exact ⟨W2, .next, ρ2, σ2, l1.trans l2, R2, F2, rfl, h2⟩
theorem T1.expr (T : X.Ok) {e : Expr} {pos} (hv : plainVal e = true) (h : TE X k env e ρ σ (kExpr ρ Q)) : T1 X k env (.Expr e pos) ρ σ Q := .mk fun A W s a R F => by
  refine wpAny_Expr_any (wpAny_mono (h.run A W s a R F) (fun v s1 h1 => ?_) fun _ _ e => e) (by unfold interactive; rw [F.kind]; rfl) (swaps_plain hv)
  obtain ⟨W1, p, σ1, l1, R1, F1, r1, h1⟩ := h1
  exact ⟨W1, .next, ρ, σ1, l1, R1, F1, rfl, h1⟩
theorem T1.ret {e : Expr} {pos} (h : TE X k env e ρ σ (kRet ρ Q)) : T1 X k env (.Return (some e) pos) ρ σ Q := .mk fun A W s a R F => by
  refine wpAny_Return_some (wpAny_mono (h.run A W s a R F) (fun v s1 h1 => ?_) fun _ _ e => e)
  obtain ⟨W1, p, σ1, l1, R1, F1, r1, h1⟩ := h1
  exact ⟨W1, .ret p, ρ, σ1, l1, R1, F1, ⟨v, rfl, r1⟩, h1⟩
theorem T1.if' {t : Expr} {b o : List Stmt} {pos} (h : TT X k env t ρ σ (kIfS X k env b o ρ Q)) : T1 X k env (.If t b o pos) ρ σ Q := .mk fun A W s a R F => by
  refine wpAny_If (wpAny_mono (h.run A W s a R F) (fun c s1 h1 => ?_) fun _ _ e => e)
  obtain ⟨W1, σ1, l1, R1, F1, h1⟩ := h1
  cases c
  · exact wpAny_mono ((h1.f rfl).run A W1 s1 a R1 F1) (fun _ _ q => q.le l1) fun _ _ e => e
  · exact wpAny_mono ((h1.t rfl).run A W1 s1 a R1 F1) (fun _ _ q => q.le l1) fun _ _ e => e
theorem T1.brk {pos} (h : Q .brk ρ σ) : T1 X k env (.Break pos) ρ σ Q := .mk fun A W s a R F => wpAny_Break ⟨W, .brk, ρ, σ, Le.refl W, R, F, rfl, h⟩
theorem T1.pass {pos} (h : Q .next ρ σ) : T1 X k env (.Pass pos) ρ σ Q := .mk fun A W s a R F => wpAny_Pass ⟨W, .next, ρ, σ, Le.refl W, R, F, rfl, h⟩
/-- a try whose body raises nothing -/
theorem T1.try' {b o : List Stmt} {h₀ : ExceptHandler} {hs : List ExceptHandler} {pos} (h : TS X k env b ρ σ (kSeq X k env o Q)) : T1 X k env (.Try b (h₀ :: hs) o [] pos) ρ σ Q := .mk fun A W s a R F => by
  refine wpAny_Try_except (wpAny_mono (h.run A W s a R F) (fun f s1 h1 => ?_) fun _ _ e => e.elim)
  obtain ⟨W1, c, ρ1, σ1, l1, R1, F1, rc, h1⟩ := h1
  cases c with
  | next => cases rc; exact wpAny_mono (h1.run A W1 s1 a R1 F1) (fun _ _ q => q.le l1) fun _ _ e => e
  | brk => cases rc; exact ⟨W1, .brk, ρ1, σ1, l1, R1, F1, rfl, h1⟩
  | cont => cases rc; exact ⟨W1, .cont, ρ1, σ1, l1, R1, F1, rfl, h1⟩
  | ret p => obtain ⟨v, rfl, rv⟩ := rc; exact ⟨W1, .ret p, ρ1, σ1, l1, R1, F1, ⟨v, rfl, rv⟩, h1⟩
theorem loadName_ok (T : X.Ok) {A : Around} {W : Map} {s : Shared} {x : Str} {p : PV} {E : Value → Shared → Prop} (R : HRel X W σ s) (F : FOk W env ρ s.heap) (hx : env.kindOf x = some .local ∨ env.kindOf x = some .cell) (hp : ρ x = some p)
    {Q : Value → Shared → Prop} (h : ∀ v, VRel W p v → Q v s) : wpAny X.M A (loadName env x) Q E s := by
  rcases hx with hx | hx
  · obtain ⟨m, hn, hm⟩ := F.ns
    obtain ⟨v, h1, h2⟩ := hm x p hx hp
    exact wpAny_loadName_local F.kind hx hn h1 (h v h2)
  · obtain ⟨c, v, h1, h2, h3⟩ := F.cel x p hx hp
    exact wpAny_loadName_cell F.kind hx h1 h2 (h v h3)
theorem stores.loads {x : Str} (h : stores env x) : env.kindOf x = some .local ∨ env.kindOf x = some .cell := h.imp id (·.1)
theorem T1.aug (T : X.Ok) {x : Str} {px pos} {op : Operator} {e : Expr} {p : PV} (hx : stores env x) (hp : ρ x = some p)
    (h : TE X k env e ρ σ (kOp X k (inplaceOp op) (kSet ρ x Q) p)) : T1 X k env (.AugAssign (.Name x px) op e pos) ρ σ Q := .mk fun A W s a R F => by
  refine wpAny_AugAssign_Name (loadName_ok T R F hx.loads hp fun v rv => ?_)
  refine wpAny_mono (h.run A W s a R F) (fun v2 s2 h2 => ?_) fun _ _ e => e
  obtain ⟨W2, p2, σ2, l2, R2, F2, r2, h2⟩ := h2
  refine wpAny_mono (lift T h2 a R2 F2 (vs := [v, v2]) ⟨v, _, rfl, rv.le l2, v2, _, rfl, r2, rfl⟩) (fun v3 s3 h3 => ?_) fun _ _ e => e
  obtain ⟨W3, p3, σ3, l3, R3, F3, r3, h3⟩ := h3
  exact store_ok T R3 F3 r3 hx fun s' R' F' => ⟨W3, .next, _, σ3, l2.trans l3, R', F', rfl, h3⟩
end
end Mine

end
section
open PySem PySem.W PyProof.Rows
set_option Elab.async false
set_option linter.unusedVariables false
namespace Mine
variable {X : Txt}

/-- the ints of a range, from a on -/
noncomputable def rangeFrom (a c : Int) : Nat → List PV
  | 0 => []
  | n + 1 => .int a :: rangeFrom (a + c) c n

/-- an iterator that is about to give xs; W₀ : before it was made -/
inductive Src (W₀ W : Map) : Addr → List PV → Prop
  | list {it l : Addr} {o : Obj} {vs : List Value} {n i : Nat} {xs : List PV} : W₀ it = .no → W it = .hid o → o.cls = .type "list_iterator" → o.data = .fields #[.ref l, .int i 0] →
      W l = .fro (lstObj vs n) → VRels W xs (vs.drop i) → Src W₀ W it xs
  | tup {it l : Addr} {o : Obj} {vs : List Value} {n i : Nat} {xs : List PV} : W₀ it = .no → W it = .hid o → o.cls = .type "tuple_iterator" → o.data = .fields #[.ref l, .int i 0] →
      W l = .fro (tupObj vs n) → VRels W xs (vs.drop i) → Src W₀ W it xs
  | range {it : Addr} {a c : Int} {n : Nat} : W₀ it = .no → W it = .hid { cls := .type "range_iterator", dict := none, data := .fields #[rawInt a, rawInt n, rawInt c], slots := #[] } → Src W₀ W it (rangeFrom a c n)

theorem Src.le {W₀ W W' : Map} {it : Addr} {xs : List PV} (S : Src W₀ W it xs) (l : Le W W') : Src W₀ W' it xs := by
  cases S with
  | list a b c d e f => exact .list a (l.hid _ _ b) c d (l.fro _ _ e) (f.le l)
  | tup a b c d e f => exact .tup a (l.hid _ _ b) c d (l.fro _ _ e) (f.le l)
  | range a b => exact .range a (l.hid _ _ b)

theorem Le.setHid {W₀ W : Map} {it : Addr} {x : Slot} (l : Le W₀ W) (h : W₀ it = .no) : Le W₀ (W.set it x) :=
  l.off fun b hb => Map.set_ne fun e => hb (e ▸ h)
/-- an iterator's object has changed -/
theorem moved (T : X.Ok) {W : Map} {σ : Sto} {s : Shared} {env : Env} {ρ : Loc} {it : Addr} {o o' : Obj} {h' : Heap} (R : HRel X W σ s) (F : FOk W env ρ s.heap) (hit : W it = .hid o) (hc : ∀ v, o.data ≠ .cell v)
    (hs : Heap.SameBut it s.heap h') (ho : h'.get? it = some o') (t : Nat) :
    HRel X (W.set it (.hid o')) σ { s with heap := h', toks := t } ∧ FOk (W.set it (.hid o')) env ρ h' := by
  have r := R.same T (x := .hid o') hs (by intro o h; rw [hit] at h; cases h) (by rw [hit]; intro h; cases h) (by intro h; cases h) ho t
  have q : σ.set it (Slot.hid o').cell? = σ := R.sto_none (by intro c h; rw [hit] at h; cases h)
  rw [q] at r
  refine ⟨r, F.goF ⟨fun a o e => ?_, fun a o v hv e => ?_, fun a e => ?_⟩ fun b hb => hs.2 b ?_⟩
  · rw [Map.set_ne (by first | exact nq e (hit) rfl | exact Ne.symm (nq e (hit) rfl) | (rintro rfl; rw [hit] at e; cases e))]; exact e
  · rw [Map.set_ne (by rintro rfl; rw [hit] at e; cases e; exact hc v hv)]; exact e
  · rw [Map.set_ne (by first | exact nq e (hit) rfl | exact Ne.symm (nq e (hit) rfl) | (rintro rfl; rw [hit] at e; cases e))]; exact e
  · rintro rfl
    rcases hb with e | ⟨o, v, e, hv⟩
    · rw [hit] at e; cases e
    · rw [hit] at e; cases e; exact hc v hv
/-- an iterator is let go -/
theorem gone (T : X.Ok) {W : Map} {σ : Sto} {s : Shared} {env : Env} {ρ : Loc} {it : Addr} {o : Obj} {h' : Heap} (R : HRel X W σ s) (F : FOk W env ρ s.heap) (hit : W it = .hid o) (hc : ∀ v, o.data ≠ .cell v)
    (hs : Heap.ExtBut it s.heap h') (t : Nat) :
    HRel X (W.set it .no) σ { s with heap := h', toks := t } ∧ FOk (W.set it .no) env ρ h' := by
  have l : ∀ b o, W b = .fro o → W.set it .no b = .fro o := fun b o e => by
    rw [Map.set_ne (by first | exact nq e (hit) rfl | exact Ne.symm (nq e (hit) rfl) | (rintro rfl; rw [hit] at e; cases e))]; exact e
  refine ⟨⟨fun b => ?_, fun b o e hb => l _ _ (R.old b o e hb), fun b hb => ?_, fun b c => ?_, R.os, R.gens⟩, F.goF ⟨l, fun a o v hv e => ?_, fun a e => ?_⟩ fun b hb => ?_⟩
  · by_cases h : b = it
    · subst h; rw [Map.set_self]; trivial
    · rw [Map.set_ne h]; exact (R.ok b).mono T l fun o' e => hs b o' h e
  · rw [Map.set_ne]; exact R.tab b hb
    rintro rfl; have := R.tab _ hb; rw [hit] at this; cases this
  · rw [R.cel]
    by_cases h : b = it
    · subst h; rw [Map.set_self, hit]; simp
    · rw [Map.set_ne h]
  · rw [Map.set_ne (by rintro rfl; rw [hit] at e; cases e; exact hc v hv)]; exact e
  · rw [Map.set_ne (by first | exact nq e (hit) rfl | exact Ne.symm (nq e (hit) rfl) | (rintro rfl; rw [hit] at e; cases e))]; exact e
  · have hne : b ≠ it := by
      rintro rfl
      rcases hb with e | ⟨o, v, e, hv⟩
      · rw [hit] at e; cases e
      · rw [hit] at e; cases e; exact hc v hv
    have hsl : W b ≠ .no := by rcases hb with e | ⟨o, v, e, _⟩ <;> rw [e] <;> intro h <;> cases h
    obtain ⟨o', ho⟩ := (R.ok b).some hsl
    rw [ho]; exact hs b o' hne ho

theorem drop_get {α : Type} {l : List α} {i : Nat} {x : α} {r : List α} (h : l.drop i = x :: r) : l[i]? = some x ∧ l.drop (i + 1) = r := by
  constructor
  · have := List.getElem?_drop (xs := l) (i := i) (j := 0); rw [h] at this; simpa using this.symm
  · rw [← List.drop_drop, h]; rfl
theorem drop_end {α : Type} {l : List α} {i : Nat} (h : l.drop i = []) : l[i]? = none := by
  have := List.drop_eq_nil_iff.mp h
  exact List.getElem?_eq_none this

theorem Src.facts {W₀ W : Map} {it : Addr} {xs : List PV} (S : Src W₀ W it xs) : W₀ it = .no ∧ ∃ o, W it = .hid o ∧ (∀ v, o.data ≠ .cell v) ∧ ∀ vs n, o ≠ lstObj vs n := by
  cases S with
  | list h0 h1 h2 h3 h4 h5 => exact ⟨h0, _, h1, fun v h => by (rw [h3] at h; cases h), fun vs n h => by (subst h; cases h3)⟩
  | tup h0 h1 h2 h3 h4 h5 => exact ⟨h0, _, h1, fun v h => by (rw [h3] at h; cases h), fun vs n h => by (subst h; cases h3)⟩
  | range h0 h1 => exact ⟨h0, _, h1, fun v h => (by cases h), fun vs n h => (by have := congrArg Obj.data h; cases this)⟩

section
variable {k : Nat} {A : Around} {W₀ W : Map} {σ : Sto} {s : Shared} {env : Env} {ρ : Loc} {it : Addr} {x : PV} {xs : List PV}

inductive NPost (X : Txt) (W₀ W : Map) (env : Env) (ρ : Loc) (σ : Sto) (it : Addr) (x : PV) (xs : List PV) (r : Option Value) (s' : Shared) : Prop
  | mk (v : Value) (W' : Map) (e : r = some v) (l : Le W₀ W') (R : HRel X W' σ s') (F : FOk W' env ρ s'.heap) (r' : VRel W' x v) (S : Src W₀ W' it xs) (k : ∀ b, b ≠ it → W' b = W b)
inductive DPost (X : Txt) (W₀ W : Map) (env : Env) (ρ : Loc) (σ : Sto) (it : Addr) (r : Option Value) (s' : Shared) : Prop
  | mk (W' : Map) (e : r = none) (l : Le W₀ W') (R : HRel X W' σ s') (F : FOk W' env ρ s'.heap) (k : ∀ b, b ≠ it → W' b = W b)
theorem Src.next (T : X.Ok) (a : AOk k A) (R : HRel X W σ s) (F : FOk W env ρ s.heap) (l : Le W₀ W) {xs' : List PV} (e : xs' = x :: xs) (S : Src W₀ W it xs') :
    wpAny X.M A (pyNext (.ref it)) (NPost X W₀ W env ρ σ it x xs) (fun _ _ => False) s := by
  cases S with
  | list h0 h1 h2 h3 h4 h5 =>
    subst e
    obtain ⟨v, r, h6, h7, h8⟩ := h5
    obtain ⟨g1, g2⟩ := drop_get h6
    refine wpAny_pyNext_list_item ⟨_, R.hid h1, h2, h3⟩ (items := _) ⟨_, R.fro h4, rfl, _, rfl⟩ (by rw [List.getElem?_toArray]; exact g1) fun h' hn hs => ?_
    obtain ⟨o', ho', hc', hd'⟩ := hn
    obtain ⟨R', F'⟩ := moved T R F h1 (by rw [h3]; intro v h; cases h) hs ho' s.toks
    have lf : ∀ b o, W b = .fro o → W.set it (.hid o') b = .fro o := fun b o e => by rw [Map.set_ne (by first | exact nq e (h1) rfl | exact Ne.symm (nq e (h1) rfl) | (rintro rfl; rw [h1] at e; cases e))]; exact e
    exact ⟨v, _, rfl, l.setHid h0, R', F', VRel.mono lf _ _ h7, .list h0 (Map.set_self ..) hc' hd' (lf _ _ h4) (by rw [g2]; exact VRels.mono lf _ _ h8), fun b hb => Map.set_ne hb⟩
  | tup h0 h1 h2 h3 h4 h5 =>
    subst e
    obtain ⟨v, r, h6, h7, h8⟩ := h5
    obtain ⟨g1, g2⟩ := drop_get h6
    refine wpAny_pyNext_tuple_item ⟨_, R.hid h1, h2, h3⟩ (items := _) ⟨_, R.fro h4, rfl, _, rfl⟩ (by rw [List.getElem?_toArray]; exact g1) fun h' hn hs => ?_
    obtain ⟨o', ho', hc', hd'⟩ := hn
    obtain ⟨R', F'⟩ := moved T R F h1 (by rw [h3]; intro v h; cases h) hs ho' s.toks
    have lf : ∀ b o, W b = .fro o → W.set it (.hid o') b = .fro o := fun b o e => by rw [Map.set_ne (by first | exact nq e (h1) rfl | exact Ne.symm (nq e (h1) rfl) | (rintro rfl; rw [h1] at e; cases e))]; exact e
    exact ⟨v, _, rfl, l.setHid h0, R', F', VRel.mono lf _ _ h7, .tup h0 (Map.set_self ..) hc' hd' (lf _ _ h4) (by rw [g2]; exact VRels.mono lf _ _ h8), fun b hb => Map.set_ne hb⟩
  | @range a c n h0 h1 =>
    cases n with
    | zero => cases e
    | succ n =>
      cases e
      refine wpAny_pyNext_range_item (R.hid h1) (by lia) fun h' hn hs => ?_
      have e2 : ((n + 1 : Nat) : Int) - 1 = n := by lia
      rw [e2] at hn
      obtain ⟨R', F'⟩ := moved T R F h1 (by intro v h; cases h) hs hn (s.toks + 1)
      exact ⟨_, _, rfl, l.setHid h0, R', F', ⟨_, rfl⟩, .range h0 (Map.set_self ..), fun b hb => Map.set_ne hb⟩

theorem Src.done (T : X.Ok) (a : AOk k A) (R : HRel X W σ s) (F : FOk W env ρ s.heap) (l : Le W₀ W) {xs' : List PV} (e : xs' = []) (S : Src W₀ W it xs') :
    wpAny X.M A (pyNext (.ref it)) (DPost X W₀ W env ρ σ it) (fun _ _ => False) s := by
  cases S with
  | list h0 h1 h2 h3 h4 h5 =>
    subst e
    refine wpAny_pyNext_list_end a.handled ⟨_, R.hid h1, h2, h3⟩ (items := _) ⟨_, R.fro h4, rfl, _, rfl⟩ (by rw [List.getElem?_toArray]; exact drop_end h5) fun h' hx => ?_
    obtain ⟨R', F'⟩ := gone T R F h1 (by rw [h3]; intro v h; cases h) hx s.toks
    exact ⟨_, rfl, l.setHid h0, R', F', fun b hb => Map.set_ne hb⟩
  | tup h0 h1 h2 h3 h4 h5 =>
    subst e
    refine wpAny_pyNext_tuple_end a.handled ⟨_, R.hid h1, h2, h3⟩ (items := _) ⟨_, R.fro h4, rfl, _, rfl⟩ (by rw [List.getElem?_toArray]; exact drop_end h5) fun h' hx => ?_
    obtain ⟨R', F'⟩ := gone T R F h1 (by rw [h3]; intro v h; cases h) hx s.toks
    exact ⟨_, rfl, l.setHid h0, R', F', fun b hb => Map.set_ne hb⟩
  | @range a' c n h0 h1 =>
    cases n with
    | succ n => cases e
    | zero =>
      refine wpAny_pyNext_range_end a.handled (R.hid h1) (by simp) fun h' hx => ?_
      obtain ⟨R', F'⟩ := gone T R F h1 (by intro v h; cases h) hx s.toks
      exact ⟨_, rfl, l.setHid h0, R', F', fun b hb => Map.set_ne hb⟩

/-- what stands behind the iterable expression -/
inductive IPost (X : Txt) (W : Map) (env : Env) (ρ : Loc) (Q : List PV → Sto → Prop) (itv : Value) (s' : Shared) : Prop
  | mk (W' : Map) (it : Addr) (xs : List PV) (σ' : Sto) (e : itv = .ref it) (l : Le W W') (R : HRel X W' σ' s') (F : FOk W' env ρ s'.heap) (S : Src W W' it xs) (q : Q xs σ')
/-- an expression that is iterated over -/
structure TI (X : Txt) (k : Nat) (env : Env) (e : Expr) (ρ : Loc) (σ : Sto) (Q : List PV → Sto → Prop) : Prop where
  run : ∀ A W s, AOk k A → HRel X W σ s → FOk W env ρ s.heap → wpAny X.M A (eval e env) (fun x s1 => wpAny X.M A (pyIter x) (IPost X W env ρ Q) (fun _ _ => False) s1) (fun _ _ => False) s

theorem pyIter_list (T : X.Ok) {Q : List PV → Sto → Prop} {v : Value} (R : HRel X W σ s) (F : FOk W env ρ s.heap) (r : VRel W (.lst xs) v) (h : Q xs σ) : wpAny X.M A (pyIter v) (IPost X W env ρ Q) (fun _ _ => False) s := by
  obtain ⟨a, vs, n, rfl, hW, z, q⟩ := r
  refine wpAny_pyIter_list (items := vs.toArray) ⟨_, R.fro hW, rfl, n, rfl⟩ ?_
  have l := R.le_set (.hid { cls := .type "list_iterator", data := .fields #[.ref a, .int 0 0] })
  exact ⟨_, s.heap.objs.size, xs, σ, rfl, l, R.pushHid T rfl s.toks, FOk.push T R F _ _, .list R.new (Map.set_self ..) rfl rfl (l.fro _ _ hW) (q.le l), h⟩
theorem pyIter_tup (T : X.Ok) {Q : List PV → Sto → Prop} {v : Value} (R : HRel X W σ s) (F : FOk W env ρ s.heap) (r : VRel W (.tup xs) v) (h : Q xs σ) : wpAny X.M A (pyIter v) (IPost X W env ρ Q) (fun _ _ => False) s := by
  obtain ⟨a, vs, n, rfl, hW, z, q⟩ := r
  refine wpAny_pyIter_tuple (items := vs.toArray) ⟨_, R.fro hW, rfl, n, rfl⟩ ?_
  have l := R.le_set (.hid { cls := .type "tuple_iterator", data := .fields #[.ref a, .int 0 0] })
  exact ⟨_, s.heap.objs.size, xs, σ, rfl, l, R.pushHid T rfl s.toks, FOk.push T R F _ _, .tup R.new (Map.set_self ..) rfl rfl (l.fro _ _ hW) (q.le l), h⟩
theorem IPost.le {W1 : Map} {Q : List PV → Sto → Prop} {v : Value} {s : Shared} (l : Le W W1) (h : IPost X W1 env ρ Q v s) : IPost X W env ρ Q v s := by
  obtain ⟨W', it, xs, σ', e, l', R, F, S, q⟩ := h
  refine ⟨W', it, xs, σ', e, l.trans l', R, F, ?_, q⟩
  cases S with
  | list a b c d e f => exact .list (l.no _ a) b c d e f
  | tup a b c d e f => exact .tup (l.no _ a) b c d e f
  | range a b => exact .range (l.no _ a) b
end
end Mine

end
section
open PySem PySem.W PyProof.Rows
set_option Elab.async false
set_option linter.unusedVariables false
namespace Mine
variable {X : Txt}

theorem HRel.K (T : X.Ok) {W : Map} {σ : Sto} {s : Shared} (R : HRel X W σ s) : X.K.In s.heap := fun a o e =>
  R.keeps T (T.inK a o e) fun h => by rw [(T.tabK _ h).1] at e; cases e

noncomputable def plainKeep (X : Txt) (f : Value) : Bool := match f with
  | .ref _ => keepIn X.K f
  | _ => true
theorem plainKeep.looks {f : Value} (h : plainKeep X f = true) (hp : Heap) (x : X.K.In hp) : ∃ k, (k = Keeper.frame ∨ k = Keeper.machine ∨ k = Keeper.boundFrame) ∧ Looks X.M hp (keeperOf f) k := by
  cases f with
  | ref a =>
    obtain ⟨k, h1, h2⟩ := looks_keep (M := X.M) (f := .ref a) h x
    exact ⟨k, h1.elim .inl (fun e => .inr (.inl e)), h2⟩
  | _ => exact ⟨.machine, .inr (.inl rfl), Looks.of_pure rfl⟩

theorem starEach_plain {env : Env} : ∀ {es : List Expr} {pos : Pos}, noStar es = true → (backTo pos (starEach es env)).any (·.1) = false
  | [], _, _ => rfl
  | e :: es, pos, h => by
    obtain ⟨he, hn⟩ := starEach_cons (env := env) h
    rw [he]
    show (false || (backTo pos (starEach es env)).any (·.1)) = false
    rw [starEach_plain hn]; rfl
section
variable {k : Nat} {env : Env} {ρ : Loc} {σ : Sto}

theorem callWith_ok (T : X.Ok) {A : Around} {W : Map} {s : Shared} {fv : Value} {first : List Value} {args : List Expr} {pos : Pos} {P : List PV → Sto → Prop} {Q : Value → Shared → Prop}
    (hkeep : plainKeep X fv = true) (hn : noStar args = true) (h : TEs X k env args ρ σ P) (a : AOk k A) (R : HRel X W σ s) (F : FOk W env ρ s.heap)
    (hq : ∀ vs s1, LPost X W env ρ P vs s1 → wpAny X.M A (call fv (first ++ vs)) Q (fun _ _ => False) s1) :
    wpAny X.M A (callWith pos fv first (backTo pos (starEach args env)) []) Q (fun _ _ => False) s := by
  refine callWith_of (P := fun hp => X.K.In hp) (by rw [starEach_plain hn]; rfl) (fun hp x => plainKeep.looks hkeep hp x) ?_
  have key := TEs.ok (pos := pos) hn h A W s a R F
  cases args with
  | nil => exact evalArgs_nil3 ⟨R.K T, hq [] s ⟨W, [], σ, Le.refl W, R, F, rfl, h⟩⟩
  | cons e es =>
    obtain ⟨he, _⟩ := starEach_cons (env := env) hn
    rw [he] at key ⊢
    refine Calls.evalArgs_plain (wpAny_mono key (fun vs s1 h1 => ?_) fun _ _ e => e)
    obtain ⟨W1, ps, σ1, l1, R1, F1, r1, h1⟩ := id h1
    exact ⟨R1.K T, hq vs s1 ⟨W1, ps, σ1, l1, R1, F1, r1, h1⟩⟩
/-- a call of what a global name stands for -/
theorem callName (T : X.Ok) {A : Around} {W : Map} {s : Shared} {f : Str} {fv : Value} {args : List Expr} {pos p : Pos} {P : List PV → Sto → Prop} {Q : Value → Shared → Prop}
    (hk : env.kindOf f = some .globalImplicit) (hv : X.glob f = some fv) (hd : (f == ("__debug__" : Str)) = false) (hkeep : plainKeep X fv = true) (hn : noStar args = true)
    (h : TEs X k env args ρ σ P) (a : AOk k A) (R : HRel X W σ s) (F : FOk W env ρ s.heap)
    (hq : ∀ vs s1, LPost X W env ρ P vs s1 → wpAny X.M A (call fv vs) Q (fun _ _ => False) s1) :
    wpAny X.M A (eval (.Call (.Name f p) args [] pos) env) Q (fun _ _ => False) s := by
  have name : ∀ Q' : Value → Shared → Prop, Q' fv s → wpAny X.M A (eval (.Name f p) env) Q' (fun _ _ => False) s := fun Q' q => by
    refine Calls.Name_function_global F.kind hk ?_ hd
    unfold Txt.glob at hv
    cases e : X.mg f with
    | some u => rw [e] at hv; cases hv; exact Calls.loadGlobal_global (by rw [F.glb]; exact R.g T) e q
    | none => rw [e] at hv; exact Calls.loadGlobal_builtin (by rw [F.glb]; exact R.g T) e (by rw [F.blt]; exact R.b T) hv q
  exact wpAny_Call_ofName (name _ (callWith_ok T (first := []) hkeep hn h a R F hq))
noncomputable abbrev kCall (X : Txt) (k : Nat) (fv : Value) (Q : PV → Sto → Prop) (ps : List PV) (σ : Sto) : Prop := TOp X k (fun vs => PySem.call fv vs) ps σ Q
theorem TE.call (T : X.Ok) {f : Str} {fv : Value} {args : List Expr} {pos p : Pos} {Q : PV → Sto → Prop}
    (hk : env.kindOf f = some .globalImplicit) (hv : X.glob f = some fv) (hd : (f == ("__debug__" : Str)) = false) (hkeep : plainKeep X fv = true) (hn : noStar args = true)
    (h : TEs X k env args ρ σ (kCall X k fv Q)) : TE X k env (.Call (.Name f p) args [] pos) ρ σ Q := .mk fun A W s a R F => by
  refine callName T hk hv hd hkeep hn h a R F fun vs s1 h1 => ?_
  obtain ⟨W1, ps, σ1, l1, R1, F1, r1, h1⟩ := h1
  exact wpAny_mono (lift T h1 a R1 F1 r1) (fun _ _ q => q.le l1) fun _ _ e => e

/-! sources -/
noncomputable abbrev kIt (Q : List PV → Sto → Prop) (p : PV) (σ : Sto) : Prop := ∃ xs, (p = .lst xs ∨ p = .tup xs) ∧ Q xs σ
theorem TI.val (T : X.Ok) {e : Expr} {Q : List PV → Sto → Prop} (h : TE X k env e ρ σ (kIt Q)) : TI X k env e ρ σ Q := .mk fun A W s a R F => by
  refine wpAny_mono (h.run A W s a R F) (fun v s1 h1 => ?_) fun _ _ e => e
  obtain ⟨W1, p, σ1, l1, R1, F1, r1, xs, hp, h1⟩ := h1
  rcases hp with rfl | rfl
  · exact wpAny_mono (pyIter_list T R1 F1 r1 h1) (fun _ _ q => q.le l1) fun _ _ e => e
  · exact wpAny_mono (pyIter_tup T R1 F1 r1 h1) (fun _ _ q => q.le l1) fun _ _ e => e
theorem pyIter_range (T : X.Ok) {A : Around} {W : Map} {s : Shared} {r : Addr} {a b c : Int} {t u v : Tok} {Q : List PV → Sto → Prop} (R : HRel X W σ s) (F : FOk W env ρ s.heap) (hr : IsRange s.heap r a b c t u v)
    (hs : Builtin.Range.small a b c = true) (h0 : 0 ≤ Builtin.Range.rangeSize a b c) (h : Q (rangeFrom a c (Builtin.Range.rangeSize a b c).toNat) σ) : wpAny X.M A (pyIter (.ref r)) (IPost X W env ρ Q) (fun _ _ => False) s := by
  refine wpAny_pyIter_range hr hs ?_
  have l := R.le_set (.hid { cls := .type "range_iterator", data := .fields #[rawInt a, rawInt (Builtin.Range.rangeSize a b c), rawInt c] })
  refine ⟨_, s.heap.objs.size, _, σ, rfl, l, R.pushHid T rfl s.toks, FOk.push T R F _ _, .range R.new ?_, h⟩
  rw [Map.set_self, Int.toNat_of_nonneg h0]
theorem FOk.pushNo {W : Map} {s : Shared} (R : HRel X W σ s) (F : FOk W env ρ s.heap) (o : Obj) : FOk W env ρ (s.heap.push o) := FOk.ext R F fun _ _ e => Heap.get?_push_of_some _ e
theorem HRel.pushNo (T : X.Ok) {W : Map} {s : Shared} (R : HRel X W σ s) (o : Obj) (t : Nat) : HRel X W σ { s with heap := s.heap.push o, toks := t } := R.ext T (fun _ _ e => Heap.get?_push_of_some _ e) t
noncomputable def isRangeName (X : Txt) (env : Env) (f : Str) : Prop := env.kindOf f = some .globalImplicit ∧ X.glob f = some (.type "range") ∧ (f == ("__debug__" : Str)) = false
/-- the ints of a range that fits -/
noncomputable def rangeOf (a b c : Int) : List PV := rangeFrom a c (Builtin.Range.rangeSize a b c).toNat
noncomputable def rangeFits (a b c : Int) : Prop := Builtin.Range.small a b c = true ∧ 0 ≤ Builtin.Range.rangeSize a b c
theorem TE.imp {e : Expr} {Q Q' : PV → Sto → Prop} (h : TE X k env e ρ σ Q) (i : ∀ p σ, Q p σ → Q' p σ) : TE X k env e ρ σ Q' := .mk fun A W s a R F =>
  wpAny_mono (h.run A W s a R F) (fun v s' ⟨W', p, σ', l, R', F', r, q⟩ => ⟨W', p, σ', l, R', F', r, i p σ' q⟩) fun _ _ e => e
theorem TI.range1 (T : X.Ok) {f : Str} {e : Expr} {p pos : Pos} {Q : List PV → Sto → Prop} (hf : isRangeName X env f) (hn : noStar [e] = true)
    (h : TE X k env e ρ σ fun p σ1 => ∃ n, p = .int n ∧ rangeFits 0 n 1 ∧ Q (rangeOf 0 n 1) σ1) : TI X k env (.Call (.Name f p) [e] [] pos) ρ σ Q := .mk fun A W s a R F => by
  refine callName (P := fun ps σ1 => ∃ n, ps = [.int n] ∧ rangeFits 0 n 1 ∧ Q (rangeOf 0 n 1) σ1) T hf.1 hf.2.1 hf.2.2 rfl hn ?_ a R F fun vs s1 h1 => ?_
  · exact h.imp fun p σ1 ⟨n, e, r⟩ => ⟨n, by rw [e], r⟩
  · obtain ⟨W1, ps, σ1, l1, R1, F1, r1, n, rfl, ⟨hs, h0⟩, h1⟩ := h1
    obtain ⟨v, _, rfl, ⟨t, rfl⟩, rfl⟩ := r1
    refine call_range_1 ?_
    exact wpAny_mono (pyIter_range T (R1.pushNo T _ _) (FOk.pushNo R1 F1 _) (IsRange.new ..) hs h0 h1) (fun _ _ q => q.le l1) fun _ _ e => e
theorem TI.range2 (T : X.Ok) {f : Str} {e1 e2 : Expr} {p pos : Pos} {Q : List PV → Sto → Prop} (hf : isRangeName X env f) (hn : noStar [e1, e2] = true)
    (h : TE X k env e1 ρ σ fun p1 σ1 => TE X k env e2 ρ σ1 fun p2 σ2 => ∃ m n, p1 = .int m ∧ p2 = .int n ∧ rangeFits m n 1 ∧ Q (rangeOf m n 1) σ2) : TI X k env (.Call (.Name f p) [e1, e2] [] pos) ρ σ Q := .mk fun A W s a R F => by
  refine callName (P := fun ps σ1 => ∃ m n, ps = [.int m, .int n] ∧ rangeFits m n 1 ∧ Q (rangeOf m n 1) σ1) T hf.1 hf.2.1 hf.2.2 rfl hn ?_ a R F fun vs s1 h1 => ?_
  · exact h.imp fun p1 σ1 h => h.imp fun p2 σ2 ⟨m, n, e1, e2, r⟩ => ⟨m, n, by rw [e1, e2], r⟩
  · obtain ⟨W1, ps, σ1, l1, R1, F1, r1, m, n, rfl, ⟨hs, h0⟩, h1⟩ := h1
    obtain ⟨v, _, rfl, ⟨t, rfl⟩, v2, _, rfl, ⟨t2, rfl⟩, rfl⟩ := r1
    refine call_range_2 ?_
    exact wpAny_mono (pyIter_range T (R1.pushNo T _ _) (FOk.pushNo R1 F1 _) (IsRange.new ..) hs h0 h1) (fun _ _ q => q.le l1) fun _ _ e => e
theorem TI.range3 (T : X.Ok) {f : Str} {e1 e2 e3 : Expr} {p pos : Pos} {Q : List PV → Sto → Prop} (hf : isRangeName X env f) (hn : noStar [e1, e2, e3] = true)
    (h : TE X k env e1 ρ σ fun p1 σ1 => TE X k env e2 ρ σ1 fun p2 σ2 => TE X k env e3 ρ σ2 fun p3 σ3 => ∃ m n c, p1 = .int m ∧ p2 = .int n ∧ p3 = .int c ∧ c ≠ 0 ∧ Builtin.divisionGoesByPylong (n - m) c = false ∧ rangeFits m n c ∧ Q (rangeOf m n c) σ3) : TI X k env (.Call (.Name f p) [e1, e2, e3] [] pos) ρ σ Q := .mk fun A W s a R F => by
  refine callName (P := fun ps σ1 => ∃ m n c, ps = [.int m, .int n, .int c] ∧ c ≠ 0 ∧ Builtin.divisionGoesByPylong (n - m) c = false ∧ rangeFits m n c ∧ Q (rangeOf m n c) σ1) T hf.1 hf.2.1 hf.2.2 rfl hn ?_ a R F fun vs s1 h1 => ?_
  · exact h.imp fun p1 σ1 h => h.imp fun p2 σ2 h => h.imp fun p3 σ3 ⟨m, n, c, e1, e2, e3, r⟩ => ⟨m, n, c, by rw [e1, e2, e3], r⟩
  · obtain ⟨W1, ps, σ1, l1, R1, F1, r1, m, n, c, rfl, hc, hp, ⟨hs, h0⟩, h1⟩ := h1
    obtain ⟨v, _, rfl, ⟨t, rfl⟩, v2, _, rfl, ⟨t2, rfl⟩, v3, _, rfl, ⟨t3, rfl⟩, rfl⟩ := r1
    refine call_range_3 hc ?_ (.inl hp)
    exact wpAny_mono (pyIter_range T (R1.pushNo T _ _) (FOk.pushNo R1 F1 _) (IsRange.new ..) hs h0 h1) (fun _ _ q => q.le l1) fun _ _ e => e

/-! for -/
noncomputable abbrev kBody (X : Txt) (k : Nat) (env : Env) (body : List Stmt) (Q : Ctl → Loc → Sto → Prop) (ρ : Loc) (σ : Sto) : Prop := TS X k env body ρ σ Q
noncomputable abbrev kTurn (N : Loc → Sto → Prop) (Q : Ctl → Loc → Sto → Prop) (c : Ctl) (ρ : Loc) (σ : Sto) : Prop := match c with
  | .next | .cont => N ρ σ
  | .brk => Q .next ρ σ
  | .ret p => Q (.ret p) ρ σ
noncomputable def TFor (X : Txt) (k : Nat) (env : Env) (tg : Expr) (body orelse : List Stmt) : List PV → Loc → Sto → (Ctl → Loc → Sto → Prop) → Prop
  | [], ρ, σ, Q => TS X k env orelse ρ σ Q
  | x :: xs, ρ, σ, Q => TAsg X k env tg x ρ σ (kBody X k env body (kTurn (fun ρ2 σ2 => TFor X k env tg body orelse xs ρ2 σ2 Q) Q))
/-- a target that a for of this kind may bear -/
noncomputable def tgOk : Expr → Bool
  | .Name .. => true
  | .Tuple .. => true
  | _ => false
theorem letOwned_ok {A : Around} {W₀ W : Map} {s : Shared} {it : Addr} {xs : List PV} {tg : Expr} {v : Value} {x : PV} {Q : Unit → Shared → Prop} {E : Value → Shared → Prop} (ht : tgOk tg = true) (R : HRel X W σ s) (S : Src W₀ W it xs) (r : VRel W x v)
    (h : Q () s) : wpAny X.M A (letOwnedTupleGo tg (.ref it) v) Q E s := by
  have key : ∀ (o : Obj) (T : String) (vs : Array Value), s.heap.get? it = some o → o.cls = .type T → o.data = .fields vs →
      (["enumerate", "zip", "dict_itemiterator", "dict_reverseitemiterator", "odict_iterator", "itertools.zip_longest", "itertools.pairwise"].contains T) = false → wpAny X.M A (letOwnedTupleGo tg (.ref it) v) Q E s := by
    intro o T vs ho hc hd hT
    cases tg with
    | Tuple es j pos =>
      unfold letOwnedTupleGo
      cases v with
      | ref a =>
        refine wpAny_bind (wpAny_load ho ?_)
        rw [hc, hd]
        show wpAny X.M A (if (["enumerate", "zip", "dict_itemiterator", "dict_reverseitemiterator", "odict_iterator", "itertools.zip_longest", "itertools.pairwise"].contains T && vs[0]? == some (rawInt a)) = true then _ else _) Q E s
        rw [if_neg (by rw [hT, Bool.false_and]; exact Bool.false_ne_true)]
        exact wpAny_pure h
      | _ => exact wpAny_pure h
    | Name => exact wpAny_pure h
    | _ => cases ht
  cases S with
  | list h0 h1 h2 h3 h4 h5 => exact key _ _ _ (R.hid h1) h2 h3 (by decide)
  | tup h0 h1 h2 h3 h4 h5 => exact key _ _ _ (R.hid h1) h2 h3 (by decide)
  | range h0 h1 => exact key _ _ _ (R.hid h1) rfl rfl (by decide)
inductive ForI (X : Txt) (k : Nat) (env : Env) (tg : Expr) (body orelse : List Stmt) (W₀ : Map) (it : Addr) (Q : Ctl → Loc → Sto → Prop) (n : Nat) (s : Shared) : Prop
  | mk (W : Map) (ρ : Loc) (σ : Sto) (xs : List PV) (e : xs.length = n) (l : Le W₀ W) (R : HRel X W σ s) (F : FOk W env ρ s.heap) (S : Src W₀ W it xs) (h : TFor X k env tg body orelse xs ρ σ Q)
theorem TFor.ok (T : X.Ok) {tg : Expr} {body orelse : List Stmt} {Q : Ctl → Loc → Sto → Prop} (ht : tgOk tg = true) {A : Around} {W₀ W : Map} {s : Shared} {it : Addr} {xs : List PV} (a : AOk k A) (l : Le W₀ W) (R : HRel X W σ s) (F : FOk W env ρ s.heap)
    (S : Src W₀ W it xs) (h : TFor X k env tg body orelse xs ρ σ Q) :
    codeAny X.M A (.forLoop tg (.ref it) body orelse env) (fun r s' => match r with | .ok f => SPost X W₀ env Q f s' | .error e => cameBackBy X.M A env (fun _ _ => False) e s') s := by
  refine codeAny_forLoop_any (ForI X k env tg body orelse W₀ it Q) ?_ xs.length ⟨W, ρ, σ, xs, rfl, l, R, F, S, h⟩
  rintro n s ⟨W, ρ, σ, xs, hlen, l, R, F, S, h⟩
  cases xs with
  | nil =>
    refine wpAny_mono (Src.done T a R F l rfl S) (fun r s1 h1 => ?_) fun _ _ e => e.elim
    obtain ⟨W1, rfl, l1, R1, F1, _⟩ := h1
    exact wpAny_mono (h.run A W1 s1 a R1 F1) (fun f s2 h2 => h2.le l1) fun _ _ e => e.elim
  | cons x xs =>
    refine wpAny_mono (Src.next T a R F l rfl S) (fun r s1 h1 => ?_) fun _ _ e => e.elim
    obtain ⟨v, W1, rfl, l1, R1, F1, r1, S1, _⟩ := h1
    refine letOwned_ok ht R1 S1 r1 ?_
    refine wpAny_mono (h.run A W1 s1 v a R1 F1 r1) (fun _ s2 h2 => ?_) fun _ _ e => e.elim
    obtain ⟨W2, ρ2, σ2, l2, R2, F2, h2⟩ := h2
    refine wpAny_mono (h2.run A W2 s2 a R2 F2) (fun f s3 h3 => ?_) fun _ _ e => e.elim
    obtain ⟨W3, c, ρ3, σ3, l3, R3, F3, rc, h3⟩ := h3
    have lw := (l1.trans l2).trans l3
    have S3 := S1.le (l2.trans l3)
    have hlt : xs.length < n := by rw [← hlen]; simp
    cases c with
    | next => cases rc; exact ⟨_, hlt, W3, ρ3, σ3, xs, rfl, lw, R3, F3, S3, h3⟩
    | cont => cases rc; exact ⟨_, hlt, W3, ρ3, σ3, xs, rfl, lw, R3, F3, S3, h3⟩
    | brk => cases rc; exact ⟨W3, .next, ρ3, σ3, lw, R3, F3, rfl, h3⟩
    | ret p => obtain ⟨u, rfl, ru⟩ := rc; exact ⟨W3, .ret p, ρ3, σ3, lw, R3, F3, ⟨u, rfl, ru⟩, h3⟩
/-- an iterable that no set is folded from -/
noncomputable def noSet : Expr → Bool
  | .Set .. => false
  | _ => true
theorem folded_plain {e : Expr} (h : noSet e = true) (x : Value) : foldedSetIterable e env x = pure x := by cases e <;> first | rfl | cases h
theorem AOk.mark {k : Nat} {A : Around} (a : AOk k A) : A.mark none = A := by
  have := a.handled
  unfold Around.mark; simp
noncomputable abbrev kFor (X : Txt) (k : Nat) (env : Env) (tg : Expr) (body orelse : List Stmt) (ρ : Loc) (Q : Ctl → Loc → Sto → Prop) (xs : List PV) (σ : Sto) : Prop := TFor X k env tg body orelse xs ρ σ Q
theorem T1.for' (T : X.Ok) {tg iter : Expr} {body orelse : List Stmt} {pos : Pos} {Q : Ctl → Loc → Sto → Prop} (ht : tgOk tg = true) (hs : noSet iter = true) (h : TI X k env iter ρ σ (kFor X k env tg body orelse ρ Q)) :
    T1 X k env (.For tg iter body orelse pos) ρ σ Q := .mk fun A W s a R F => by
  refine wpAny_For (wpAny_mono (h.run A W s a R F) (fun x s1 h1 => wpAny_mono h1 (fun itv s2 h2 => ?_) fun _ _ e => e) fun _ _ e => e) (folded_plain hs)
  obtain ⟨W', it, xs, σ', rfl, l, R', F', S, h2⟩ := h2
  exact TFor.ok T ht a l R' F' S h2

end
end Mine

end
section
open PySem PySem.W PyProof.Rows
set_option Elab.async false
set_option linter.unusedVariables false
namespace Mine
variable {X : Txt}

theorem Src.self {A : Around} {W₀ W : Map} {σ : Sto} {s : Shared} {it : Addr} {xs : List PV} {Q : Value → Shared → Prop} {E : Value → Shared → Prop} (R : HRel X W σ s) (S : Src W₀ W it xs) (h : Q (.ref it) s) : wpAny X.M A (pyIter (.ref it)) Q E s := by
  cases S with
  | list h0 h1 h2 h3 h4 h5 => exact wpAny_pyIter_listiter ⟨_, R.hid h1, h2, h3⟩ h
  | tup h0 h1 h2 h3 h4 h5 => exact wpAny_pyIter_tupleiter ⟨_, R.hid h1, h2, h3⟩ h
  | range h0 h1 => exact wpAny_pyIter_rangeiter (R.hid h1) h

/-- the list that a comprehension builds -/
structure Acc (W₀ W : Map) (D : Addr) (acc : List PV) : Prop where
  no : W₀ D = .no
  at' : ∃ ys n, W D = .hid (lstObj ys n) ∧ ys.length ≤ sizeLine ∧ VRels W acc ys
theorem Acc.le {W₀ W W' : Map} {D : Addr} {acc : List PV} (x : Acc W₀ W D acc) (l : Le W W') : Acc W₀ W' D acc :=
  let ⟨ys, n, a, b, c⟩ := x.at'; ⟨x.no, ys, n, l.hid _ _ a, b, c.le l⟩
theorem Acc.push (T : X.Ok) {A : Around} {W₀ W : Map} {σ : Sto} {s : Shared} {env : Env} {ρ : Loc} {D : Addr} {acc : List PV} {p : PV} {v : Value} {E : Value → Shared → Prop} (x : Acc W₀ W D acc) (l : Le W₀ W) (R : HRel X W σ s) (F : FOk W env ρ s.heap) (r : VRel W p v)
    (hl : acc.length + 1 ≤ sizeLine) {Q : Value → Shared → Prop} (h : ∀ W' s', Le W₀ W' → HRel X W' σ s' → FOk W' env ρ s'.heap → Acc W₀ W' D (acc ++ [p]) → (∀ b, b ≠ D → W' b = W b) → Q .none s') :
    wpAny X.M A (call (.builtin "list.append") [.ref D, v]) Q E s := by
  obtain ⟨no, ys, n, hD, z, q⟩ := x
  have hz : ys.length = acc.length := q.length
  refine wpAny_list_append_plain (items := ys.toArray) ⟨n, R.hid hD⟩ (fun h' hp hs => ?_) (by rw [List.size_toArray]; exact z)
  obtain ⟨n', ho⟩ := hp
  have e : ys.toArray.push v = (ys ++ [v]).toArray := by simp
  rw [e] at ho
  obtain ⟨R', F'⟩ := moved T R F hD (by intro v h; cases h) hs ho s.toks
  have lf : ∀ b o, W b = .fro o → W.set D (.hid (lstObj (ys ++ [v]) n')) b = .fro o := fun b o e => by rw [Map.set_ne (by first | exact nq e (hD) rfl | exact Ne.symm (nq e (hD) rfl) | (rintro rfl; rw [hD] at e; cases e))]; exact e
  exact h _ _ (l.setHid no) R' F' ⟨no, _, n', Map.set_self .., by simp; lia, VRels.append (VRels.mono lf _ _ q) ⟨v, [], rfl, VRel.mono lf _ _ r, rfl⟩⟩ fun b hb => Map.set_ne hb

section
variable {k : Nat} {env : Env}

/-- the tests of a clause -/
theorem tests_ok {A : Around} {ρ : Loc} : ∀ {cs : List Expr} {σ : Sto} {Q : Bool → Sto → Prop} {W : Map} {s : Shared}, TTAnd X k env cs ρ σ Q → AOk k A → HRel X W σ s → FOk W env ρ s.heap →
    wpAny X.M A (forIn cs true fun c r => if r = true then do let ok ← isTrue c env (eval c env); pure (ForInStep.yield ok) else pure (ForInStep.yield r)) (BPost X W env ρ Q) (fun _ _ => False) s
  | [], σ, Q, W, s, h, a, R, F => wpAny_pure ⟨W, σ, Le.refl W, R, F, h⟩
  | c :: cs, σ, Q, W, s, h, a, R, F => by
    simp only [List.forIn_cons, if_true]
    refine wpAny_bind (wpAny_bind (wpAny_mono (h.run A W s a R F) (fun b s1 h1 => wpAny_pure ?_) fun _ _ e => e))
    obtain ⟨W1, σ1, l1, R1, F1, h1⟩ := h1
    cases b with
    | true => exact wpAny_mono (tests_ok (h1.t rfl) a R1 F1) (fun _ _ q => q.le l1) fun _ _ e => e
    | false =>
      have key : ∀ cs : List Expr, wpAny X.M A (forIn cs false fun c r => if r = true then do let ok ← isTrue c env (eval c env); pure (ForInStep.yield ok) else pure (ForInStep.yield r)) (BPost X W env ρ Q) (fun _ _ => False) s1 := by
        intro cs
        induction cs with
        | nil => exact wpAny_pure ⟨W1, σ1, l1, R1, F1, h1.f rfl⟩
        | cons c cs ih =>
          simp only [List.forIn_cons, Bool.false_eq_true, if_false]
          exact wpAny_bind (wpAny_pure ih)
      exact key cs

/-- one behind the other -/
noncomputable def TLoop (step : PV → List PV → Loc → Sto → (List PV → Loc → Sto → Prop) → Prop) : List PV → List PV → Loc → Sto → (List PV → Loc → Sto → Prop) → Prop
  | [], acc, ρ, σ, Q => Q acc ρ σ
  | x :: xs, acc, ρ, σ, Q => step x acc ρ σ fun acc1 ρ1 σ1 => TLoop step xs acc1 ρ1 σ1 Q
/-- a comprehension's clauses -/
noncomputable def TGens (X : Txt) (k : Nat) (env : Env) (elt : Expr) : List Comprehension → List PV → List PV → Loc → Sto → (List PV → Loc → Sto → Prop) → Prop
  | [] => fun _ _ _ _ _ => False
  | g :: gs => TLoop fun x acc ρ σ K => TAsg X k env g.target x ρ σ fun ρ1 σ1 => TTAnd X k env g.ifs ρ1 σ1 fun b σ2 =>
      Br b (match gs with
        | [] => TE X k env elt ρ1 σ2 fun p σ3 => acc.length + 1 ≤ sizeLine ∧ K (acc ++ [p]) ρ1 σ3
        | g2 :: _ => TI X k env g2.iter ρ1 σ2 fun ys σ3 => TGens X k env elt gs ys acc ρ1 σ3 K)
        (K acc ρ1 σ2)
noncomputable def genOk (g : Comprehension) : Bool := g.is_async == 0 && tgOk g.target && noSet g.iter

inductive GPost (X : Txt) (W₀ : Map) (env : Env) (D : Addr) (Q : List PV → Loc → Sto → Prop) (s' : Shared) : Prop
  | mk (W' : Map) (ρ' : Loc) (σ' : Sto) (acc' : List PV) (l : Le W₀ W') (R : HRel X W' σ' s') (F : FOk W' env ρ' s'.heap) (C : Acc W₀ W' D acc') (q : Q acc' ρ' σ')

theorem compTurn_last {elt : Expr} {gens : List Comprehension} {scope : Scope} {pos : Pos} {d : Nat} {g : Comprehension} {it acc : Value} (hg : gens[d]? = some g) (ha : g.is_async = 0) (hn : gens[d + 1]? = none) :
    compTurn (.ListComp elt gens scope pos) d it acc env = (standAt g.iter.pos >>= fun _ => pyNext it >>= fun r => match r with
      | none => pure (.done .next)
      | some v => letOwnedTupleGo g.target it v >>= fun _ => PySem.assign g.target env v >>= fun _ =>
        (forIn g.ifs true fun c r => if r = true then do let ok ← isTrue c env (eval c env); pure (ForInStep.yield ok) else pure (ForInStep.yield r)) >>= fun ok =>
          if ok = true then (eval elt env >>= fun x => call (.builtin "list.append") [acc, x] >>= fun _ => pure ()) >>= fun _ => again (.compLoop (.ListComp elt gens scope pos) d it acc env)
          else again (.compLoop (.ListComp elt gens scope pos) d it acc env)) := by
  unfold compTurn
  simp only [hg, ha, hn]
  rfl
theorem compTurn_more {elt : Expr} {gens : List Comprehension} {scope : Scope} {pos : Pos} {d : Nat} {g g' : Comprehension} {it acc : Value} (hg : gens[d]? = some g) (ha : g.is_async = 0) (hn : gens[d + 1]? = some g') (ha' : g'.is_async = 0) :
    compTurn (.ListComp elt gens scope pos) d it acc env = (standAt g.iter.pos >>= fun _ => pyNext it >>= fun r => match r with
      | none => pure (.done .next)
      | some v => letOwnedTupleGo g.target it v >>= fun _ => PySem.assign g.target env v >>= fun _ =>
        (forIn g.ifs true fun c r => if r = true then do let ok ← isTrue c env (eval c env); pure (ForInStep.yield ok) else pure (ForInStep.yield r)) >>= fun ok =>
          if ok = true then (eval g'.iter env >>= fun x => standAt g'.iter.pos >>= fun _ => foldedSetIterable g'.iter env x >>= fun x => holding [x] (pyIter x) >>= fun i => runOwn (.compStart (.ListComp elt gens scope pos) (d + 1) i acc env) env >>= fun _ =>
            again (.compLoop (.ListComp elt gens scope pos) d it acc env))
          else again (.compLoop (.ListComp elt gens scope pos) d it acc env)) := by
  unfold compTurn
  simp only [hg, ha, hn, ha']
  rfl

theorem Le.drop {W : Map} {D : Addr} : Le (W.set D .no) W :=
  ⟨fun a o e => by
      by_cases h : a = D
      · subst h; rw [Map.set_self] at e; cases e
      · rwa [Map.set_ne h] at e,
   fun a o e => by
      by_cases h : a = D
      · subst h; rw [Map.set_self] at e; cases e
      · rwa [Map.set_ne h] at e,
   fun a e => by
      by_cases h : a = D
      · subst h; rw [Map.set_self] at e; cases e
      · rwa [Map.set_ne h] at e,
   fun a e => by
      by_cases h : a = D
      · subst h; rw [Map.set_self]
      · rwa [Map.set_ne h]⟩
theorem Src.away {W₀ W : Map} {it D : Addr} {xs : List PV} {ys : List Value} {n : Nat} (S : Src W₀ W it xs) (hD : W D = .hid (lstObj ys n)) : Src W₀ (W.set D .no) it xs := by
  have lf : ∀ b o, W b = .fro o → W.set D .no b = .fro o := fun b o e => by rw [Map.set_ne (by first | exact nq e (hD) rfl | exact Ne.symm (nq e (hD) rfl) | (rintro rfl; rw [hD] at e; cases e))]; exact e
  cases S with
  | list a b c d e f => exact .list a (by rw [Map.set_ne (by rintro rfl; rw [hD] at b; cases b; cases d)]; exact b) c d (lf _ _ e) (VRels.mono lf _ _ f)
  | tup a b c d e f => exact .tup a (by rw [Map.set_ne (by rintro rfl; rw [hD] at b; cases b; cases d)]; exact b) c d (lf _ _ e) (VRels.mono lf _ _ f)
  | range a b => exact .range a (by rw [Map.set_ne (by rintro rfl; rw [hD] at b; have := congrArg Obj.data (Slot.hid.inj b); cases this)]; exact b)
theorem Src.base {W₀ W₁ W : Map} {it : Addr} {xs : List PV} (S : Src W₀ W it xs) (h : W₀ it = .no → W₁ it = .no) : Src W₁ W it xs := by
  cases S with
  | list a b c d e f => exact .list (h a) b c d e f
  | tup a b c d e f => exact .tup (h a) b c d e f
  | range a b => exact .range (h a) b

theorem codeAny_compStart_any {A : Around} {elt : Expr} {gens : List Comprehension} {scope : Scope} {pos : Pos} {d : Nat} {g : Comprehension} {it acc : Value} {R : Result → Shared → Prop} {s : Shared} (hg : gens[d]? = some g) (ha : g.is_async = 0)
    (h0 : codeAny X.M A (.compLoop (.ListComp elt gens scope pos) d it acc env) R s)
    (h : wpAny X.M A (pyIter it) (fun it' s' => codeAny X.M A (.compLoop (.ListComp elt gens scope pos) d it' acc env) R s') (fun _ _ => False) s) :
    codeAny X.M A (.compStart (.ListComp elt gens scope pos) d it acc env) R s := by
  refine codeAny_of_tree ?_
  show wpAny _ _ ((compStart (.ListComp elt gens scope pos) d it acc env).onRaise (fun x => do noteFrame x env; standAt theWindowsPlace)) _ _ s
  refine wpAny_notedAt ?_
  have hc : (clausesOf (.ListComp elt gens scope pos))[d]? = some g := hg
  unfold compStart
  simp only [hc, Option.elim, ha]
  refine wpAny_bind (wpAny_askSetting (wpAny_ite ?_))
  split
  · exact wpAny_bind (wpAny_pure (wpAny_pure (And.intro rfl h0)))
  · refine wpAny_bind (wpAny_rule ?_)
    refine wpAny_bind (wpAny_standAt (wpAny_bind (wpAny_mono h (fun it' s' h' => wpAny_pure (And.intro rfl h')) fun _ _ x => x.elim)))

theorem Acc.keep {W₀ W W1 : Map} {it D : Addr} {acc xs : List PV} (C : Acc W₀ W D acc) (S : Src W₀ W it xs) (k : ∀ b, b ≠ it → W1 b = W b) : Acc W₀ W1 D acc := by
  obtain ⟨hit0, oit, hit, _, hitl⟩ := S.facts
  obtain ⟨ys, m, hD, hz, hv⟩ := C.at'
  have hne : D ≠ it := by rintro rfl; rw [hD] at hit; cases hit; exact hitl _ _ rfl
  exact ⟨C.no, ys, m, (k D hne).trans hD, hz, VRels.mono (fun b o e => (k b (by first | exact nq e (hit) rfl | exact Ne.symm (nq e (hit) rfl) | (rintro rfl; rw [hit] at e; cases e))).trans e) _ _ hv⟩
theorem next_nil (T : X.Ok) {α : Type} {A : Around} {W₀ W : Map} {ρ : Loc} {σ : Sto} {s : Shared} {it D : Addr} {acc : List PV} {f : Option Value → Sem α} {P : α → Shared → Prop} {E : Value → Shared → Prop}
    (a : AOk k A) (l : Le W₀ W) (R : HRel X W σ s) (F : FOk W env ρ s.heap) (C : Acc W₀ W D acc) (S : Src W₀ W it [])
    (h : ∀ W1 s1, Le W₀ W1 → HRel X W1 σ s1 → FOk W1 env ρ s1.heap → Acc W₀ W1 D acc → wpAny X.M A (f none) P E s1) : wpAny X.M A (pyNext (.ref it) >>= f) P E s := by
  refine wpAny_bind (wpAny_mono (Src.done T a R F l rfl S) (fun r s1 h1 => ?_) fun _ _ e => e.elim)
  obtain ⟨W1, rfl, l1, R1, F1, k1⟩ := h1
  exact h W1 s1 l1 R1 F1 (C.keep S k1)
theorem next_cons (T : X.Ok) {α : Type} {A : Around} {W₀ W : Map} {ρ : Loc} {σ : Sto} {s : Shared} {it D : Addr} {acc xs : List PV} {x : PV} {f : Option Value → Sem α} {P : α → Shared → Prop} {E : Value → Shared → Prop}
    (a : AOk k A) (l : Le W₀ W) (R : HRel X W σ s) (F : FOk W env ρ s.heap) (C : Acc W₀ W D acc) (S : Src W₀ W it (x :: xs))
    (h : ∀ v W1 s1, Le W₀ W1 → HRel X W1 σ s1 → FOk W1 env ρ s1.heap → VRel W1 x v → Src W₀ W1 it xs → Acc W₀ W1 D acc → wpAny X.M A (f (some v)) P E s1) : wpAny X.M A (pyNext (.ref it) >>= f) P E s := by
  refine wpAny_bind (wpAny_mono (Src.next T a R F l rfl S) (fun r s1 h1 => ?_) fun _ _ e => e.elim)
  obtain ⟨v, W1, rfl, l1, R1, F1, r1, S1, k1⟩ := h1
  exact h v W1 s1 l1 R1 F1 r1 S1 (C.keep S k1)
/-- a turn's target and tests -/
theorem head_ok {α : Type} {A : Around} {W₀ W : Map} {ρ : Loc} {σ : Sto} {s : Shared} {it D : Addr} {acc xs : List PV} {x : PV} {v : Value} {g : Comprehension} {f : Bool → Sem α} {P : α → Shared → Prop} {E : Value → Shared → Prop} {Y N : Loc → Sto → Prop}
    (htg : tgOk g.target = true) (a : AOk k A) (l : Le W₀ W) (R : HRel X W σ s) (F : FOk W env ρ s.heap) (r : VRel W x v) (C : Acc W₀ W D acc) (S : Src W₀ W it xs)
    (h : TAsg X k env g.target x ρ σ fun ρ1 σ1 => TTAnd X k env g.ifs ρ1 σ1 fun b σ2 => Br b (Y ρ1 σ2) (N ρ1 σ2))
    (q : ∀ b W1 s1 ρ1 σ1, Le W₀ W1 → HRel X W1 σ1 s1 → FOk W1 env ρ1 s1.heap → Src W₀ W1 it xs → Acc W₀ W1 D acc → Br b (Y ρ1 σ1) (N ρ1 σ1) → wpAny X.M A (f b) P E s1) :
    wpAny X.M A (letOwnedTupleGo g.target (.ref it) v >>= fun _ => PySem.assign g.target env v >>= fun _ => (forIn g.ifs true fun c r => if r = true then do let ok ← isTrue c env (eval c env); pure (ForInStep.yield ok) else pure (ForInStep.yield r)) >>= f) P E s := by
  refine wpAny_bind (letOwned_ok htg R S r ?_)
  refine wpAny_bind (wpAny_mono (h.run A W s v a R F r) (fun _ s2 h2 => ?_) fun _ _ e => e.elim)
  obtain ⟨W2, ρ2, σ2, l2, R2, F2, h2⟩ := h2
  refine wpAny_bind (wpAny_mono (tests_ok h2 a R2 F2) (fun ok s3 h3 => ?_) fun _ _ e => e.elim)
  obtain ⟨W3, σ3, l3, R3, F3, h3⟩ := h3
  have l13 := l2.trans l3
  exact q ok W3 s3 ρ2 σ3 (l.trans l13) R3 F3 (S.le l13) (C.le l13) h3
/-- the element goes to the list's end -/
theorem elt_ok (T : X.Ok) {α : Type} {A : Around} {W₀ W : Map} {ρ : Loc} {σ : Sto} {s : Shared} {it D : Addr} {acc xs : List PV} {elt : Expr} {f : Value → Sem α} {P : α → Shared → Prop} {E : Value → Shared → Prop} {K : List PV → Loc → Sto → Prop}
    (a : AOk k A) (l : Le W₀ W) (R : HRel X W σ s) (F : FOk W env ρ s.heap) (S : Src W₀ W it xs) (C : Acc W₀ W D acc)
    (h : TE X k env elt ρ σ fun p σ3 => acc.length + 1 ≤ sizeLine ∧ K (acc ++ [p]) ρ σ3)
    (q : ∀ p W1 s1 σ1, Le W₀ W1 → HRel X W1 σ1 s1 → FOk W1 env ρ s1.heap → Src W₀ W1 it xs → Acc W₀ W1 D (acc ++ [p]) → K (acc ++ [p]) ρ σ1 → wpAny X.M A (f .none) P E s1) :
    wpAny X.M A (eval elt env >>= fun x => call (.builtin "list.append") [.ref D, x] >>= f) P E s := by
  refine wpAny_bind (wpAny_mono (h.run A W s a R F) (fun v4 s4 h4 => ?_) fun _ _ e => e.elim)
  obtain ⟨W4, p, σ4, l4, R4, F4, r4, hz4, h4⟩ := h4
  refine wpAny_bind (Acc.push T (C.le l4) (l.trans l4) R4 F4 r4 hz4 fun W5 s5 l5 R5 F5 C5 k5 => ?_)
  refine q p W5 s5 σ4 l5 R5 F5 ?_ C5 h4
  obtain ⟨ys4, m4, hD4, _, _⟩ := (C.le l4).at'
  have k6 : ∀ b, W4.set D .no b = .no ∨ (b ≠ D ∧ W5 b = W4.set D .no b) := fun b => by
    by_cases hb : b = D
    · subst hb; exact .inl (Map.set_self ..)
    · exact .inr ⟨hb, by rw [Map.set_ne hb]; exact k5 b hb⟩
  have key : ∀ b x, x ≠ Slot.no → W4.set D .no b = x → W5 b = x := fun b x hx e => by
    rcases k6 b with e' | ⟨_, e'⟩
    · exact absurd (e.symm.trans e') hx
    · exact e'.trans e
  refine ((S.le l4).away hD4).le ⟨fun b o e => key b _ (by intro h; cases h) e, fun b o e => key b _ (by intro h; cases h) e, fun b e => key b _ (by intro h; cases h) e, fun b e => ?_⟩
  rcases k6 b with e' | ⟨_, e'⟩
  · exact e'
  · exact e'.symm.trans e
/-- the loop within -/
theorem down_ok {α : Type} {A : Around} {W₀ W : Map} {ρ : Loc} {σ : Sto} {s : Shared} {it D : Addr} {acc xs : List PV} {elt : Expr} {gens : List Comprehension} {scope : Scope} {pos : Pos} {d : Nat} {g : Comprehension} {f : Flow → Sem α} {P : α → Shared → Prop} {E : Value → Shared → Prop}
    {K : List PV → List PV → Loc → Sto → (List PV → Loc → Sto → Prop) → Prop} {Q : List PV → Loc → Sto → Prop} (hns : noSet g.iter = true) (hg : gens[d]? = some g) (ha : g.is_async = 0)
    (a : AOk k A) (l : Le W₀ W) (R : HRel X W σ s) (F : FOk W env ρ s.heap) (S : Src W₀ W it xs) (C : Acc W₀ W D acc)
    (h : TI X k env g.iter ρ σ fun ys σ3 => K ys acc ρ σ3 Q)
    (ih : ∀ {W₀ W : Map} {ρ : Loc} {σ : Sto} {s : Shared} {it D : Addr} {acc xs : List PV} {Q : List PV → Loc → Sto → Prop}, Le W₀ W → HRel X W σ s → FOk W env ρ s.heap → Acc W₀ W D acc → Src W₀ W it xs → K xs acc ρ σ Q →
      codeAny X.M A (.compLoop (.ListComp elt gens scope pos) d (.ref it) (.ref D) env) (fun r s' => r = .ok .next ∧ GPost X W₀ env D Q s') s)
    (q : ∀ acc1 W1 s1 ρ1 σ1, Le W₀ W1 → HRel X W1 σ1 s1 → FOk W1 env ρ1 s1.heap → Src W₀ W1 it xs → Acc W₀ W1 D acc1 → Q acc1 ρ1 σ1 → wpAny X.M A (f .next) P E s1) :
    wpAny X.M A (eval g.iter env >>= fun x => standAt g.iter.pos >>= fun _ => foldedSetIterable g.iter env x >>= fun x => holding [x] (pyIter x) >>= fun i => runOwn (.compStart (.ListComp elt gens scope pos) d i (.ref D) env) env >>= f) P E s := by
  refine wpAny_bind (wpAny_mono (h.run A W s a R F) (fun x4 s4 h4 => ?_) fun _ _ e => e.elim)
  refine wpAny_bind (wpAny_standAt (wpAny_bind (wpAny_of_eq (folded_plain hns x4) (wpAny_bind (wpAny_holding (wpAny_mono h4 (fun iv s5 h5 => ?_) fun _ _ e => e.elim))))))
  obtain ⟨W5, it5, ys5, σ5, rfl, l5, R5, F5, S5, h5⟩ := h5
  obtain ⟨ys3, m3, hD3, hz3, hv3⟩ := C.at'
  have Si : Src (W.set D .no) W5 it5 ys5 := S5.base fun e => by
    by_cases hb : it5 = D
    · subst hb; exact Map.set_self ..
    · rw [Map.set_ne hb]; exact e
  have k0 := ih (Le.drop.trans l5) R5 F5 ⟨Map.set_self .., (C.le l5).at'⟩ Si h5
  refine wpAny_bind (wpAny_runOwn ?_)
  rw [a.mark]
  refine codeAny_mono (codeAny_compStart_any hg ha k0 (Si.self R5 k0)) (fun r s6 h6 => ?_)
  obtain ⟨rfl, W6, ρ6, σ6, acc6, l6, R6, F6, C6, h6⟩ := h6
  exact q acc6 W6 s6 ρ6 σ6 ((l.setHid C.no).trans l6) R6 F6 ((S.away hD3).le l6) ⟨C.no, C6.at'⟩ h6

inductive LoopI (X : Txt) (k : Nat) (env : Env) (elt : Expr) (gs : List Comprehension) (W₀ : Map) (it D : Addr) (Q : List PV → Loc → Sto → Prop) (n : Nat) (s : Shared) : Prop
  | mk (W : Map) (ρ : Loc) (σ : Sto) (acc xs : List PV) (e : xs.length = n) (l : Le W₀ W) (R : HRel X W σ s) (F : FOk W env ρ s.heap) (C : Acc W₀ W D acc) (S : Src W₀ W it xs) (h : TGens X k env elt gs xs acc ρ σ Q)
theorem genOk.parts {g : Comprehension} (h : genOk g = true) : g.is_async = 0 ∧ tgOk g.target = true ∧ noSet g.iter = true := by
  simp only [genOk, Bool.and_eq_true, beq_iff_eq] at h
  exact ⟨h.1.1, h.1.2, h.2⟩
theorem compLoop_ok (T : X.Ok) {elt : Expr} {gens : List Comprehension} {scope : Scope} {pos : Pos} (hok : ∀ g ∈ gens, genOk g = true) : ∀ (gs : List Comprehension) (d : Nat), gens.drop d = gs →
    ∀ {A : Around} {W₀ W : Map} {ρ : Loc} {σ : Sto} {s : Shared} {it D : Addr} {acc xs : List PV} {Q : List PV → Loc → Sto → Prop}, AOk k A → Le W₀ W → HRel X W σ s → FOk W env ρ s.heap → Acc W₀ W D acc → Src W₀ W it xs →
      TGens X k env elt gs xs acc ρ σ Q →
      codeAny X.M A (.compLoop (.ListComp elt gens scope pos) d (.ref it) (.ref D) env) (fun r s' => r = .ok .next ∧ GPost X W₀ env D Q s') s := by
  intro gs
  induction gs with
  | nil => intro d hd A W₀ W ρ σ s it D acc xs Q a l R F C S h; exact h.elim
  | cons g gs ih =>
    intro d hd A W₀ W ρ σ s it D acc xs Q a l R F C S h
    obtain ⟨hg, hd'⟩ := drop_get hd
    obtain ⟨ha, htg, hns⟩ := genOk.parts (hok g (List.mem_of_getElem? hg))
    refine codeAny_loop rfl (LoopI X k env elt (g :: gs) W₀ it D Q) ?_ xs.length ⟨W, ρ, σ, acc, xs, rfl, l, R, F, C, S, h⟩
    rintro n s ⟨W, ρ, σ, acc, xs, hlen, l, R, F, C, S, h⟩
    subst hlen
    show wpAny _ A ((compTurn (.ListComp elt gens scope pos) d (.ref it) (.ref D) env).onRaise (fun x => do noteFrame x env; theTreesLotGoes x)) _ _ s
    refine wpAny_noted ?_
    cases gs with
    | nil =>
      rw [compTurn_last hg ha (drop_end hd')]
      refine wpAny_bind (wpAny_standAt ?_)
      cases xs with
      | nil => exact next_nil T a l R F C S fun W1 s1 l1 R1 F1 C1 => wpAny_pure ⟨rfl, W1, ρ, σ, acc, l1, R1, F1, C1, h⟩
      | cons x xs =>
        refine next_cons T a l R F C S fun v W1 s1 l1 R1 F1 r1 S1 C1 => head_ok htg a l1 R1 F1 r1 C1 S1 h fun b W3 s3 ρ3 σ3 l3 R3 F3 S3 C3 h3 => ?_
        cases b with
        | false => exact wpAny_pure ⟨rfl, xs.length, Nat.lt_succ_self _, W3, ρ3, σ3, acc, xs, rfl, l3, R3, F3, C3, S3, h3.f rfl⟩
        | true =>
          refine wpAny_bind (elt_ok T a l3 R3 F3 S3 C3 (K := fun acc ρ σ => TGens X k env elt [g] xs acc ρ σ Q) (h3.t rfl) fun p W5 s5 σ5 l5 R5 F5 S5 C5 h5 => ?_)
          exact wpAny_pure (wpAny_pure ⟨rfl, xs.length, Nat.lt_succ_self _, W5, ρ3, σ5, acc ++ [p], xs, rfl, l5, R5, F5, C5, S5, h5⟩)
    | cons g2 gs2 =>
      obtain ⟨hn, _⟩ := drop_get hd'
      obtain ⟨ha2, htg2, hns2⟩ := genOk.parts (hok g2 (List.mem_of_getElem? hn))
      rw [compTurn_more hg ha hn ha2]
      refine wpAny_bind (wpAny_standAt ?_)
      cases xs with
      | nil => exact next_nil T a l R F C S fun W1 s1 l1 R1 F1 C1 => wpAny_pure ⟨rfl, W1, ρ, σ, acc, l1, R1, F1, C1, h⟩
      | cons x xs =>
        refine next_cons T a l R F C S fun v W1 s1 l1 R1 F1 r1 S1 C1 => head_ok htg a l1 R1 F1 r1 C1 S1 h fun b W3 s3 ρ3 σ3 l3 R3 F3 S3 C3 h3 => ?_
        cases b with
        | false => exact wpAny_pure ⟨rfl, xs.length, Nat.lt_succ_self _, W3, ρ3, σ3, acc, xs, rfl, l3, R3, F3, C3, S3, h3.f rfl⟩
        | true =>
          refine down_ok (K := TGens X k env elt (g2 :: gs2)) (Q := fun acc ρ σ => TGens X k env elt (g :: g2 :: gs2) xs acc ρ σ Q) hns2 hn ha2 a l3 R3 F3 S3 C3 (h3.t rfl) (fun l R F C S h => ih (d + 1) hd' a l R F C S h) fun acc6 W6 s6 ρ6 σ6 l6 R6 F6 S6 C6 h6 => ?_
          exact wpAny_pure ⟨rfl, xs.length, Nat.lt_succ_self _, W6, ρ6, σ6, acc6, xs, rfl, l6, R6, F6, C6, S6, h6⟩
end
end Mine

end
section
open PySem PySem.W PyProof.Rows
set_option Elab.async false
set_option linter.unusedVariables false
namespace Mine
variable {X : Txt}

noncomputable def closStep (cells : List (Str × Addr)) (cs : List (Str × Addr)) (x : Str × NameKind) : List (Str × Addr) :=
  if x.2 == .free then (match cells.lookup x.1 with | some c => (x.1, c) :: cs | none => cs) else cs
noncomputable def closOf (names : List (Str × NameKind)) (cells : List (Str × Addr)) : List (Str × Addr) := names.foldl (closStep cells) []
theorem closureFor_eq {scope : Scope} {env : Env} (h : ∀ x ∈ scope.names, x.2 = .free → ∃ c, env.cells.lookup x.1 = some c) : closureFor scope env = pure (closOf scope.names env.cells) := by
  unfold closureFor closOf
  have key : ∀ (names : List (Str × NameKind)) (cs : List (Str × Addr)), (∀ x ∈ names, x.2 = .free → ∃ c, env.cells.lookup x.1 = some c) →
      (forIn names cs (fun (x : Str × NameKind) r => (match x with | (name, kind) => if (kind == .free) = true then (do let __do_lift ← cellOf env name; pure (ForInStep.yield ((name, __do_lift) :: r))) else pure (ForInStep.yield r) : Sem (ForInStep (List (Str × Addr))))) : Sem (List (Str × Addr)))
        = pure (names.foldl (closStep env.cells) cs) := by
    intro names
    induction names with
    | nil => intro cs _; rfl
    | cons x names ih =>
      intro cs hx
      obtain ⟨n, kd⟩ := x
      rw [List.forIn_cons, List.foldl_cons]
      by_cases hk : kd = .free
      · subst hk
        obtain ⟨c, hc⟩ := hx (n, .free) List.mem_cons_self rfl
        have e : cellOf env n = pure c := by unfold cellOf; rw [hc]
        have hs : closStep env.cells cs (n, .free) = (n, c) :: cs := by unfold closStep; simp [hc]
        simp only [beq_self_eq_true, if_true, e, hs]
        exact ih _ fun y hy => hx y (List.mem_cons_of_mem _ hy)
      · have hb : (kd == NameKind.free) = false := by simpa using hk
        have hs : closStep env.cells cs (n, kd) = cs := by unfold closStep; simp [hb]
        simp only [hb, Bool.false_eq_true, if_false, hs]
        exact ih _ fun y hy => hx y (List.mem_cons_of_mem _ hy)
  exact (congrArg (fun t => Sem.bind t pure) (key scope.names [] h)).trans rfl
theorem closOf_sub {cells : List (Str × Addr)} : ∀ (names : List (Str × NameKind)) (cs : List (Str × Addr)), (∀ x c, cs.lookup x = some c → cells.lookup x = some c) →
    ∀ x c, (names.foldl (closStep cells) cs).lookup x = some c → cells.lookup x = some c
  | [], cs, h => h
  | (n, kd) :: names, cs, h => by
    rw [List.foldl_cons]
    refine closOf_sub names _ fun x c hx => ?_
    unfold closStep at hx
    split at hx
    · split at hx
      · rename_i c' hc
        rw [List.lookup_cons] at hx
        split at hx
        · rename_i e; cases hx; rw [beq_iff_eq.mp e]; exact hc
        · exact h x c hx
      · exact h x c hx
    · exact h x c hx
theorem closOf_mono {cells : List (Str × Addr)} {x : Str} : ∀ (names : List (Str × NameKind)) (cs : List (Str × Addr)), (cs.lookup x).isSome = true → ((names.foldl (closStep cells) cs).lookup x).isSome = true
  | [], cs, h => h
  | (n, kd) :: names, cs, h => by
    rw [List.foldl_cons]
    refine closOf_mono names _ ?_
    unfold closStep
    split
    · split
      · rw [List.lookup_cons]; split
        · rfl
        · exact h
      · exact h
    · exact h
theorem closOf_has {cells : List (Str × Addr)} {x : Str} {c : Addr} (hc : cells.lookup x = some c) : ∀ (names : List (Str × NameKind)) (cs : List (Str × Addr)), (x, NameKind.free) ∈ names → ((names.foldl (closStep cells) cs).lookup x).isSome = true
  | (n, kd) :: names, cs, h => by
    rw [List.foldl_cons]
    rcases List.mem_cons.mp h with e | h
    · cases e
      refine closOf_mono names _ ?_
      unfold closStep
      simp [hc]
    · exact closOf_has hc names _ h
theorem closOf_lookup {names : List (Str × NameKind)} {cells : List (Str × Addr)} {x : Str} {c : Addr} (hc : cells.lookup x = some c) (h : (x, NameKind.free) ∈ names) : (closOf names cells).lookup x = some c := by
  obtain ⟨c', h'⟩ := Option.isSome_iff_exists.mp (closOf_has hc names [] h)
  have := closOf_sub names [] (by intro x c h; cases h) x c' h'
  rw [hc] at this; cases this; exact h'

theorem lookup_mapKind {g : Str → NameKind → NameKind} {x : Str} : ∀ (names : List (Str × NameKind)), (names.map fun (n, k) => (n, g n k)).lookup x = (names.lookup x).map (g x)
  | [] => rfl
  | (n, k) :: r => by
    simp only [List.map_cons, List.lookup_cons]
    cases h : x == n with
    | true => rw [beq_iff_eq.mp h]; rfl
    | false => exact lookup_mapKind r
/-- a comprehension's names, as they stand in its own environment -/
noncomputable def compKind (kd : Str → Option NameKind) (scope : Scope) (x : Str) : Option NameKind := (scope.names.lookup x).map fun k => if k = .free ∧ kd x = some .cell then .cell else k
theorem kindOf_comp {scope : Scope} {cl : List (Str × Addr)} {C : Addr} {env : Env} (hk : env.scope.kind = .function) (x : Str) : (compEnvC scope cl C env).kindOf x = compKind env.kindOf scope x := by
  have h : (compEnvC scope cl C env).kindOf x = (scope.names.map fun (n, k) => (n, if (k == .free && env.scope.kind == .function && env.kindOf n == some .cell) then .cell else k)).lookup x := by
    show (relabel scope env).names.lookup x = _
    unfold relabel
    congr 1
    apply List.map_congr_left
    rintro ⟨n, k⟩ _
    dsimp only
    split <;> rfl
  rw [h, lookup_mapKind (g := fun n k => if (k == .free && env.scope.kind == .function && env.kindOf n == some .cell) then .cell else k)]
  unfold compKind
  congr 1
  funext k
  by_cases h1 : k = .free <;> by_cases h2 : env.kindOf x = some .cell <;> simp [h1, h2, hk]
noncomputable def compLoc (scope : Scope) (ρ : Loc) : Loc := fun x => if scope.names.lookup x = some .free then ρ x else none
noncomputable def scopeOk (kd : Str → Option NameKind) (scope : Scope) : Bool :=
  scope.kind == .function && scope.names.all fun x => x.2 != .cell && (x.2 != .local || scope.names.lookup x.1 == some .local) && (x.2 != .free || kd x.1 == some .cell)

/-- a place gets another slot that its object bears -/
theorem reslot (T : X.Ok) {W : Map} {σ : Sto} {s : Shared} {a : Addr} {x : Slot} (R : HRel X W σ s) (hf : ∀ o, W a ≠ .fro o) (hc : ∀ c, W a ≠ .cel c) (ht : W a ≠ .tab) (hx : SlotOk X (W.set a x) s.heap a x) (hxc : x.cell? = none) (hxt : x ≠ .tab) :
    HRel X (W.set a x) σ s := by
  have r := R.same T (x := x) (Heap.SameBut.refl a s.heap) hf ht hxt hx s.toks
  have q : σ.set a x.cell? = σ := by rw [hxc]; exact R.sto_none hc
  rw [q] at r
  exact r

section
variable {k : Nat} {env : Env} {ρ : Loc} {σ : Sto}
/-- the frame of a comprehension -/
theorem FOk.comp {W W' : Map} {h h' : Heap} {scope : Scope} {C : Addr} (F : FOk W env ρ h) (hsc : scopeOk env.kindOf scope = true) (hC : W' C = .own) (hn : h'.Ns C fun _ => none)
    (hl : ∀ b o, W b = .fro o → W' b = .fro o) (hold : ∀ b o, h.get? b = some o → h'.get? b = some o ∧ b ≠ C) (hw : ∀ c o v, h.get? c = some o → o.data = .cell v → (W c = .own ∨ ∃ o v, W c = .hid o ∧ o.data = .cell v) → ∃ o', W' c = .hid o' ∧ o'.data = .cell v) :
    FOk W' (compEnvC scope (closOf scope.names env.cells) C env) (compLoc scope ρ) h' := by
  simp only [scopeOk, Bool.and_eq_true, beq_iff_eq, List.all_eq_true] at hsc
  obtain ⟨hsk, hall⟩ := hsc
  have kinds : ∀ x, (compEnvC scope (closOf scope.names env.cells) C env).kindOf x = some .cell → (x, NameKind.free) ∈ scope.names ∧ scope.names.lookup x = some .free ∧ env.kindOf x = some .cell := fun x hx => by
    rw [kindOf_comp F.kind] at hx
    unfold compKind at hx
    cases e : scope.names.lookup x with
    | none => rw [e] at hx; cases hx
    | some kd =>
      rw [e] at hx
      have hm := mem_of_lookup e
      simp only [Option.map_some, Option.some.injEq] at hx
      split at hx
      · rename_i q; exact ⟨q.1 ▸ hm, by rw [q.1], q.2⟩
      · subst hx; have := hall _ hm; simp at this
  refine ⟨by rw [show (compEnvC scope (closOf scope.names env.cells) C env).scope.kind = scope.kind from rfl]; exact hsk, F.glb, F.blt, hC, ⟨_, hn, fun x p hx hp => ?_⟩, fun x p hx hp => ?_, fun x hx => ?_, fun hf => (by cases hf), fun x y c hx hy => ?_⟩
  · exfalso
    rw [kindOf_comp F.kind] at hx
    unfold compKind at hx
    unfold compLoc at hp
    split at hp
    · rename_i e
      rw [e] at hx
      simp only [Option.map_some, Option.some.injEq] at hx
      split at hx <;> cases hx
    · cases hp
  · obtain ⟨hm, hlk, hkc⟩ := kinds x hx
    unfold compLoc at hp
    rw [if_pos hlk] at hp
    obtain ⟨c, v, h1, ⟨o, ho, hd⟩, h3⟩ := F.cel x p hkc hp
    exact ⟨c, v, closOf_lookup h1 hm, ⟨o, (hold _ _ ho).1, hd⟩, VRel.mono hl _ _ h3⟩
  · obtain ⟨hm, hlk, hkc⟩ := kinds x hx
    obtain ⟨c, ov, g1, g2, ⟨o, ho, hd⟩, g4⟩ := F.celW x hkc
    obtain ⟨o', ho', hd'⟩ := hw c o ov ho hd g4
    exact ⟨c, ov, closOf_lookup g1 hm, (hold _ _ ho).2, ⟨o, (hold _ _ ho).1, hd⟩, .inr ⟨o', ov, ho', hd'⟩⟩
  · exact F.celA x y c (closOf_sub _ [] (by intro x c h; cases h) _ _ hx) (closOf_sub _ [] (by intro x c h; cases h) _ _ hy)
end
end Mine

end
section
open PySem PySem.W PyProof.Rows
set_option Elab.async false
set_option linter.unusedVariables false
namespace Mine
variable {X : Txt}

theorem Src.mono {W₀ W W' : Map} {it : Addr} {xs : List PV} (S : Src W₀ W it xs) (hf : ∀ a o, W a = .fro o → W' a = .fro o) (hh : ∀ a o, W a = .hid o → W' a = .hid o) : Src W₀ W' it xs := by
  cases S with
  | list a b c d e f => exact .list a (hh _ _ b) c d (hf _ _ e) (VRels.mono hf _ _ f)
  | tup a b c d e f => exact .tup a (hh _ _ b) c d (hf _ _ e) (VRels.mono hf _ _ f)
  | range a b => exact .range a (hh _ _ b)
theorem hideOwn_hid {W : Map} {h : Heap} {a : Addr} {o : Obj} (e : W a = .hid o) : hideOwn W h a = .hid o := by unfold hideOwn; rw [e]
theorem Le.hideDrop {W : Map} {h : Heap} {it : Addr} : Le (hideOwn (W.set it .no) h) (hideOwn W h) := by
  have key : ∀ a, a ≠ it → hideOwn (W.set it .no) h a = hideOwn W h a := fun a ha => by unfold hideOwn; rw [Map.set_ne ha]
  have at' : hideOwn (W.set it .no) h it = .no := by unfold hideOwn; rw [Map.set_self]
  refine ⟨fun a o e => ?_, fun a o e => ?_, fun a e => ?_, fun a e => ?_⟩
  all_goals by_cases ha : a = it
  · subst ha; rw [at'] at e; cases e
  · rw [key a ha] at e; exact e
  · subst ha; rw [at'] at e; cases e
  · rw [key a ha] at e; exact e
  · exact absurd e hideOwn_own
  · exact absurd e hideOwn_own
  · subst ha; exact at'
  · rw [key a ha]; exact e

section
variable {k : Nat} {env : Env} {ρ : Loc} {σ : Sto}

theorem listComp_core (T : X.Ok) {elt : Expr} {g : Comprehension} {gs : List Comprehension} {scope : Scope} {pos : Pos} (hok : ∀ x ∈ g :: gs, genOk x = true) (hsc : scopeOk env.kindOf scope = true) {QQ : List PV → Sto → Prop}
    (h : TI X k env g.iter ρ σ fun xs σ1 => ∀ C, TGens X k (compEnvC scope (closOf scope.names env.cells) C env) elt (g :: gs) xs [] (compLoc scope ρ) σ1 fun acc _ σ2 => QQ acc σ2)
    {A : Around} {W : Map} {s : Shared} (a : AOk k A) (R : HRel X W σ s) (F : FOk W env ρ s.heap) {use : Option (Value → Sem Unit)} {Q : Value → Shared → Prop}
    (hq : ∀ W' σ' s' D C oC acc, Le W W' → HRel X W' σ' s' → FOk W' env ρ s'.heap → VRel W' (.lst acc) (.ref D) → W C = .no → W' C = .hid oC → (∀ v, oC.data ≠ .cell v) → (∃ m, s'.heap.Ns C m) → QQ acc σ' →
      compPost X.M A (fun _ _ => False) use Q (.ref D) C (.ok .next) s') (fpos : Pos) :
    wpAny X.M A (comprehension (.ListComp elt (g :: gs) scope pos) scope env fpos (newList []) false (eval g.iter env) use) Q (fun _ _ => False) s := by
  have hgo := hok g List.mem_cons_self
  simp only [genOk, Bool.and_eq_true, beq_iff_eq] at hgo
  obtain ⟨⟨ha, htg⟩, hns⟩ := hgo
  have hsc' := hsc
  simp only [scopeOk, Bool.and_eq_true, beq_iff_eq, List.all_eq_true] at hsc'
  obtain ⟨hsk, hall⟩ := hsc'
  have hcell : ∀ y ∈ scope.names, y.2 ≠ .cell := fun y hy e => by have := hall y hy; simp [e] at this
  have hnames : ∀ y ∈ scope.names, y.2 = .local → scope.names.lookup y.1 = some .local := fun y hy e => by have := hall y hy; simpa [e] using this
  have hfree : ∀ y ∈ scope.names, y.2 = .free → ∃ c, env.cells.lookup y.1 = some c := fun y hy e => by
    have h1 := hall y hy
    have h2 : env.kindOf y.1 = some .cell := by simpa [e] using h1
    obtain ⟨c, _, hc, _⟩ := F.celW y.1 h2
    exact ⟨c, hc⟩
  refine wpAny_comprehension_free rfl (folded_plain hns) (closureFor_eq hfree) hsk hnames ?_
  refine wpAny_mono (h.run A W s a R F) (fun x s1 h1 => wpAny_mono h1 (fun iv s2 h2 => ?_) fun _ _ e => e) fun _ _ e => e
  obtain ⟨W1, it, xs, σ1, rfl, l1, R1, F1, S1, h2⟩ := h2
  refine wpAny_newList (items := []) ?_ (Nat.zero_le _)
  refine wpAny_newFunctionEnv hcell (by intro y hy; simp at hy) (fun h₁ hns₁ hsb₁ => ?_) hsk
  dsimp only at hns₁ hsb₁ ⊢
  obtain ⟨hit0, oit, hit, hitc, hitl⟩ := S1.facts
  -- the frame's own map, the iterator let go
  obtain ⟨Rb, Fb⟩ := gone T R1 F1 hit hitc (Heap.ExtBut.refl it s2.heap) s2.toks
  have lWb : Le W (W1.set it .no) := l1.setHid hit0
  generalize hWb : W1.set it .no = Wb at Rb Fb lWb
  have Rb : HRel X Wb σ1 s2 := Rb
  have R1h := R1.hide T
  have l12 := R1h.le_set (.hid (lstObj [] 0))
  have R2 := R1h.pushHid T (o := lstObj [] 0) rfl s2.toks
  have hDn : Wb s2.heap.objs.size = .no := Rb.new
  generalize hD : s2.heap.objs.size = D at *
  generalize hW2 : (hideOwn W1 s2.heap).set D (.hid (lstObj [] 0)) = W2 at l12 R2
  have hH : (s2.heap.push (lstObj [] 0)).objs.size = D + 1 := by rw [Heap.size_push, hD]
  have l23 := R2.le_set .own
  have R3 := R2.pushOwn T (o := { cls := .type "dict", data := .dict #[] }) rfl s2.toks
  have hCn : Wb (s2.heap.push (lstObj [] 0)).objs.size = .no := by
    cases e : Wb (s2.heap.push (lstObj [] 0)).objs.size with
    | no => rfl
    | _ => have := Rb.lt (a := (s2.heap.push (lstObj [] 0)).objs.size) (by rw [e]; intro h; cases h); rw [hH, hD] at this; exact absurd this (Nat.not_lt.mpr (Nat.le_succ D))
  change HRel X (W2.set (s2.heap.push (lstObj [] 0)).objs.size .own) σ1 _ at R3
  change Le W2 (W2.set (s2.heap.push (lstObj [] 0)).objs.size .own) at l23
  change h₁.Ns (s2.heap.push (lstObj [] 0)).objs.size _ at hns₁
  change Heap.SameBut (s2.heap.push (lstObj [] 0)).objs.size ((s2.heap.push (lstObj [] 0)).push { cls := .type "dict", data := .dict #[] }) h₁ at hsb₁
  generalize hC : (s2.heap.push (lstObj [] 0)).objs.size = C at *
  have hDC : D ≠ C := by lia
  obtain ⟨oC₀, _, _, hoC₀, _⟩ := id hns₁
  have R4 := R3.ownSet T (h' := h₁) hsb₁ (Map.set_self ..) hoC₀ (s2.toks + ([] : List (Str × Value)).length)
  generalize hW3 : W2.set C .own = W3 at *
  have keep : ∀ b o, s2.heap.get? b = some o → h₁.get? b = some o ∧ b ≠ C := fun b o e => by
    have hb : b ≠ C := by have := Heap.lt_size e; rw [hD] at this; rw [hH]; exact Nat.ne_of_lt (Nat.lt_succ_of_lt this)
    exact ⟨hsb₁.extBut b o hb (Heap.get?_push_of_some _ (Heap.get?_push_of_some _ e)), hb⟩
  have hl : ∀ b o, W1 b = .fro o → W3 b = .fro o := fun b o e => l23.fro _ _ (l12.fro _ _ (hideOwn_fro.mpr e))
  have hh : ∀ b o, W1 b = .hid o → W3 b = .hid o := fun b o e => l23.hid _ _ (l12.hid _ _ (hideOwn_hid e))
  have F4 : FOk W3 (compEnvC scope (closOf scope.names env.cells) C env) (compLoc scope ρ) h₁ := by
    refine F1.comp hsc (by rw [← hW3]; exact Map.set_self ..) hns₁ hl keep fun c o v ho hd hw => ?_
    rcases hw with e | ⟨o', v', e, hv'⟩
    · exact ⟨o, l23.hid _ _ (l12.hid _ _ (by unfold hideOwn; rw [e]; simp only [ho])), hd⟩
    · have := R1.hid e; rw [ho] at this; cases this
      exact ⟨o, hh _ _ e, hd⟩
  have lWh : Le (hideOwn Wb s2.heap) W3 := by rw [← hWb]; exact (Le.hideDrop.trans l12).trans l23
  have hWhD : hideOwn Wb s2.heap D = .no := by unfold hideOwn; rw [hDn]
  have hWhC : hideOwn Wb s2.heap C = .no := by unfold hideOwn; rw [hCn]
  have hWhit : hideOwn Wb s2.heap it = .no := by unfold hideOwn; rw [← hWb, Map.set_self]
  have C4 : Acc (hideOwn Wb s2.heap) W3 D [] := ⟨hWhD, [], 0, l23.hid _ _ (by rw [← hW2]; exact Map.set_self ..), Nat.zero_le _, rfl⟩
  have S4 : Src (hideOwn Wb s2.heap) W3 it xs := (S1.mono hl hh).base fun _ => hWhit
  have k0 := compLoop_ok T (scope := scope) (pos := pos) hok (g :: gs) 0 rfl a lWh R4 F4 C4 S4 (h2 C)
  have k1 := codeAny_compStart_any (show (g :: gs)[0]? = some g from rfl) ha k0 (S4.self R4 k0)
  refine codeAny_mono k1 fun r s5 h5 => ?_
  obtain ⟨rfl, W5, ρ5, σ5, acc, l5, R5, F5, C5, q5⟩ := h5
  obtain ⟨ys, n, hW5D, hz, hv⟩ := C5.at'
  have hW5C : W5 C = .own := F5.ownL
  obtain ⟨m5, hm5, _⟩ := F5.ns
  obtain ⟨oC, esC, epC, hoC, hdC, _⟩ := id hm5
  have R6 := reslot T (x := .hid oC) R5 (a := C) (by intro o e; rw [hW5C] at e; cases e) (by intro c e; rw [hW5C] at e; cases e) (by rw [hW5C]; intro e; cases e) hoC rfl (by intro e; cases e)
  have l6 := l5.setHid (it := C) (x := .hid oC) hWhC
  have hW6D : (W5.set C (.hid oC)) D = .hid (lstObj ys n) := by rw [Map.set_ne hDC]; exact hW5D
  have R7 := reslot T (x := .fro (lstObj ys n)) R6 (a := D) (by intro o e; rw [hW6D] at e; cases e) (by intro c e; rw [hW6D] at e; cases e) (by rw [hW6D]; intro e; cases e) (R6.hid hW6D) rfl (by intro e; cases e)
  have l7 := l6.setHid (it := D) (x := .fro (lstObj ys n)) hWhD
  have f57 : ∀ b o, W5 b = .fro o → ((W5.set C (.hid oC)).set D (.fro (lstObj ys n))) b = .fro o := fun b o e => by
    rw [Map.set_ne (by first | exact nq e (hW5D) rfl | exact Ne.symm (nq e (hW5D) rfl) | (rintro rfl; rw [hW5D] at e; cases e)), Map.set_ne (by first | exact nq e (hW5C) rfl | exact Ne.symm (nq e (hW5C) rfl) | (rintro rfl; rw [hW5C] at e; cases e))]; exact e
  refine hq (backOwn Wb _) σ5 s5 D C oC acc (lWb.trans (Le.back l7)) (HRel.back T Rb l7 R7) (FOk.back Rb Fb l7 R7) ⟨D, ys, n, rfl, (back_fro Rb l7).mpr (Map.set_self ..), hz, ?_⟩ (lWb.no _ hCn) ?_ (fun v e => by rw [hdC] at e; cases e) ⟨m5, hm5⟩ q5
  · exact VRels.mono (fun b o e => (back_fro Rb l7).mpr (f57 b o e)) _ _ hv
  · unfold backOwn
    rw [hCn]
    show ((W5.set C (.hid oC)).set D (.fro (lstObj ys n))) C = .hid oC
    rw [Map.set_ne (Ne.symm hDC), Map.set_self]

/-- behind the block: its frame is let go -/
theorem letGo_ok (T : X.Ok) {W W' : Map} {s' : Shared} {σ' : Sto} {C : Addr} {oC : Obj} {ρ' : Loc} {h' : Heap} (l : Le W W') (R : HRel X W' σ' s') (F : FOk W' env ρ' s'.heap) (hn : W C = .no) (hC : W' C = .hid oC) (hd : ∀ v, oC.data ≠ .cell v) (hs : Heap.SameBut C s'.heap h') :
    Le W (W'.set C .no) ∧ HRel X (W'.set C .no) σ' { s' with heap := h' } ∧ FOk (W'.set C .no) env ρ' h' ∧ ∀ b o, W' b = .fro o → (W'.set C .no) b = .fro o :=
  let ⟨a, b⟩ := gone T R F hC hd hs.extBut s'.toks
  ⟨l.setHid hn, a, b, fun b o e => by rw [Map.set_ne (by first | exact nq e (hC) rfl | exact Ne.symm (nq e (hC) rfl) | (rintro rfl; rw [hC] at e; cases e))]; exact e⟩

noncomputable def compsOk (env : Env) (gens : List Comprehension) (scope : Scope) : Prop := (∀ x ∈ gens, genOk x = true) ∧ scopeOk env.kindOf scope = true

theorem TE.listComp (T : X.Ok) {elt : Expr} {g : Comprehension} {gs : List Comprehension} {scope : Scope} {pos : Pos} (hok : ∀ x ∈ g :: gs, genOk x = true) (hsc : scopeOk env.kindOf scope = true) {Q : PV → Sto → Prop}
    (h : TI X k env g.iter ρ σ fun xs σ1 => ∀ C, TGens X k (compEnvC scope (closOf scope.names env.cells) C env) elt (g :: gs) xs [] (compLoc scope ρ) σ1 fun acc _ σ2 => Q (.lst acc) σ2) :
    TE X k env (.ListComp elt (g :: gs) scope pos) ρ σ Q := .mk fun A W s a R F => by
  have hgo := hok g List.mem_cons_self
  simp only [genOk, Bool.and_eq_true, beq_iff_eq] at hgo
  have e : eval (.ListComp elt (g :: gs) scope pos) env = comprehension (.ListComp elt (g :: gs) scope pos) scope env (firstIterPos (g :: gs) pos) (newList []) false (eval g.iter env) := by
    have h1 : firstAsync (g :: gs) = false := by obtain ⟨tg, it, ifs, as⟩ := g; show (as != 0) = false; rw [show as = 0 from hgo.1.1]; rfl
    show comprehension _ scope env _ (newList []) (firstAsync (g :: gs)) (firstIter (g :: gs) env) = _
    rw [h1]
    have h2 : firstIter (g :: gs) env = eval g.iter env := by obtain ⟨tg, it, ifs, as⟩ := g; rfl
    rw [h2]
  rw [e]
  refine listComp_core T hok hsc h a R F (use := none) (fun W' σ' s' D C oC acc l' R' F' r' hn hC hd hm q => ?_) _
  obtain ⟨m, hm⟩ := hm
  refine ⟨m, hm, fun h' hs => ?_⟩
  obtain ⟨a1, a2, a3, a4⟩ := letGo_ok T l' R' F' hn hC hd hs
  exact ⟨_, .lst acc, σ', a1, a2, a3, VRel.mono a4 _ _ r', q⟩
end
end Mine

end
section
open PySem PySem.W PyProof.Rows
set_option Elab.async false
set_option linter.unusedVariables false
namespace Mine
variable {X : Txt}

section
variable {k : Nat} {env : Env} {ρ : Loc} {σ : Sto} {Q : Ctl → Loc → Sto → Prop}
theorem T1.assignComp (T : X.Ok) {x : Str} {px pos : Pos} {elt : Expr} {g : Comprehension} {gs : List Comprehension} {scope : Scope} {cpos : Pos} (hok : ∀ y ∈ g :: gs, genOk y = true) (hsc : scopeOk env.kindOf scope = true) (hx : stores env x)
    (h : TI X k env g.iter ρ σ fun xs σ1 => ∀ C, TGens X k (compEnvC scope (closOf scope.names env.cells) C env) elt (g :: gs) xs [] (compLoc scope ρ) σ1 fun acc _ σ2 => Q .next (ρ.set x (.lst acc)) σ2) :
    T1 X k env (.Assign [.Name x px] (.ListComp elt (g :: gs) scope cpos) pos) ρ σ Q := .mk fun A W s a R F => by
  have hgo := hok g List.mem_cons_self
  simp only [genOk, Bool.and_eq_true, beq_iff_eq] at hgo
  have h1 : firstAsync (g :: gs) = false := by obtain ⟨tg, it, ifs, as⟩ := g; show (as != 0) = false; rw [show as = 0 from hgo.1.1]; rfl
  have h2 : firstIter (g :: gs) env = eval g.iter env := by obtain ⟨tg, it, ifs, as⟩ := g; rfl
  have hb : ∃ b, swapsWith (.ListComp elt (g :: gs) scope cpos) (some (.Name x px)) pos.line env = pure b := ⟨_, rfl⟩
  obtain ⟨b, hb⟩ := hb
  cases b with
  | false =>
    refine wpAny_Assign_Name ?_ hb
    refine wpAny_mono ((TE.listComp T hok hsc (Q := fun p σ2 => Q .next (ρ.set x p) σ2) h).run A W s a R F) (fun v s1 h1 => ?_) fun _ _ e => e
    obtain ⟨W1, p, σ1, l1, R1, F1, r1, q⟩ := h1
    exact store_ok T R1 F1 r1 hx fun s' R' F' => ⟨W1, .next, _, σ1, l1, R', F', rfl, q⟩
  | true =>
    rw [exec_Assign_Name_used _ _ _ _ hb]
    refine wpAny_bind (wpAny_standAt (wpAny_bind ?_))
    show wpAny _ A (do let _ ← comprehension (.ListComp elt (g :: gs) scope cpos) scope env (firstIterPos (g :: gs) cpos) (newList []) (firstAsync (g :: gs)) (firstIter (g :: gs) env) (some (PySem.assign (.Name x px) env))) _ _ s
    rw [h1, h2]
    refine wpAny_bind (wpAny_mono (listComp_core T hok hsc h a R F (use := some (PySem.assign (.Name x px) env)) (Q := fun _ s' => SPost X W env Q .next s') (fun W' σ' s' D C oC acc l' R' F' r' hn hC hd hm q => ?_) _) (fun _ _ q => wpAny_pure (wpAny_pure q)) fun _ _ e => e)
    obtain ⟨m, hm⟩ := hm
    show wpAny _ A (PySem.assign (.Name x px) env (.ref D)) _ _ _
    refine wpAny_assign_Name (store_ok T R' F' r' hx fun s'' R'' F'' => ?_)
    have hC2 := R''.hid hC
    have hC1 := R'.hid hC
    refine ⟨m, Ns.of_get hm (hC2.trans hC1.symm), fun h' hs => ?_⟩
    obtain ⟨a1, a2, a3, a4⟩ := letGo_ok T l' R'' F'' hn hC hd hs
    exact ⟨_, .next, _, σ', a1, a2, a3, rfl, q⟩
end

/-! calls of the text's defs -/
noncomputable def bindP : List (Str × PV) → Loc → Loc
  | [], ρ => ρ
  | (n, p) :: r, ρ => bindP r (ρ.set n p)
theorem bind_rel {W : Map} {kd : Str → Option NameKind} : ∀ {names : List Str} {ps : List PV} {vs : List Value} {m cm : Str → Option Value} {ρ : Loc}, VRels W ps vs → names.length = ps.length →
    (∀ x ∈ names, kd x = some .local ∨ kd x = some .cell) →
    (∀ x p, kd x = some .local → ρ x = some p → ∃ v, m x = some v ∧ VRel W p v) → (∀ x p, kd x = some .cell → ρ x = some p → ∃ v, cm x = some v ∧ VRel W p v) →
    (∀ x p, kd x = some .local → bindP (names.zip ps) ρ x = some p → ∃ v, bindL kd (names.zip vs) m x = some v ∧ VRel W p v) ∧
    (∀ x p, kd x = some .cell → bindP (names.zip ps) ρ x = some p → ∃ v, bindC kd (names.zip vs) cm x = some v ∧ VRel W p v)
  | [], ps, vs, m, cm, ρ, r, hl, hk, h1, h2 => ⟨h1, h2⟩
  | n :: names, [], vs, m, cm, ρ, r, hl, hk, h1, h2 => by simp at hl
  | n :: names, p :: ps, _, m, cm, ρ, ⟨v, vs, rfl, r, rs⟩, hl, hk, h1, h2 => by
    simp only [List.zip_cons_cons, bindP, bindL, bindC]
    refine bind_rel rs (by simpa using hl) (fun x hx => hk x (List.mem_cons_of_mem _ hx)) (fun x q hx hq => ?_) fun x q hx hq => ?_
    · unfold Loc.set at hq
      by_cases e : x = n
      · subst e
        rw [if_pos rfl] at hq; cases hq
        rw [if_pos hx]; exact ⟨v, by simp, r⟩
      · rw [if_neg e] at hq
        obtain ⟨u, g1, g2⟩ := h1 x q hx hq
        refine ⟨u, ?_, g2⟩
        split
        · simp [e, g1]
        · exact g1
    · unfold Loc.set at hq
      by_cases e : x = n
      · subst e
        rw [if_pos rfl] at hq; cases hq
        rw [if_neg (by rw [hx]; intro h; cases h)]; exact ⟨v, by simp, r⟩
      · rw [if_neg e] at hq
        obtain ⟨u, g1, g2⟩ := h2 x q hx hq
        refine ⟨u, ?_, g2⟩
        split
        · exact g1
        · simp [e, g1]

/-- a def of the text, without closure, its parameters plain -/
structure DefAt (X : Txt) (fa : Addr) (names : List Str) (body : List Stmt) (scope : Scope) : Prop where
  fn : ∃ o fd, X.K.lookup fa = some o ∧ o.data = .func fd ∧ fd.body = .stmts body ∧ fd.scope = scope ∧ fd.closure = [] ∧ fd.globals = mainGlobals ∧ fd.builtins = builtinsNs ∧ codeIn X.K fd.code fd.qualname = true ∧
    ∀ vs : List Value, vs.length = names.length → bindArgs fd ⟨vs, []⟩ = pure (names.zip vs)
  kinds : ∀ x ∈ names, scope.names.lookup x = some .local ∨ scope.names.lookup x = some .cell
  co : scope.isCoroutine = false
  gen : scope.isGenerator = false
  kind : scope.kind = .function

noncomputable def refV : Value → Option Addr
  | .ref a => some a
  | _ => none
theorem refV_ok {v : Value} {a : Addr} (h : refV v = some a) : v = .ref a := by
  cases v <;> cases h; rfl
noncomputable def fldD : Data → Option (Array Value)
  | .fields vs => some vs
  | _ => none
theorem fldD_ok {d : Data} {vs : Array Value} (h : fldD d = some vs) : d = .fields vs := by
  cases d <;> cases h; rfl
noncomputable def celD : Data → Option Value
  | .cell (some u) => some u
  | _ => none
theorem celD_ok {d : Data} {u : Value} (h : celD d = some u) : d = .cell (some u) := by
  cases d <;> try cases h
  rename_i o; cases o <;> cases h; rfl
noncomputable def strV : Value → Bool
  | .str _ _ => true
  | _ => false
theorem strV_ok {v : Value} (h : strV v = true) : ∃ s t, v = .str s t := by
  cases v <;> first | cases h; done | exact ⟨_, _, rfl⟩
noncomputable def intV : Value → Bool
  | .int _ _ => true
  | _ => false
theorem intV_ok {v : Value} (h : intV v = true) : ∃ s t, v = .int s t := by
  cases v <;> first | cases h; done | exact ⟨_, _, rfl⟩
noncomputable def boolV : Value → Bool
  | .bool _ => true
  | _ => false
theorem boolV_ok {v : Value} (h : boolV v = true) : ∃ b, v = .bool b := by
  cases v <;> first | cases h; done | exact ⟨_, rfl⟩
theorem any_ok {α : Type} {o : Option α} {f : α → Bool} (h : o.any f = true) : ∃ x, o = some x ∧ f x = true := by
  cases o with
  | none => cases h
  | some x => exact ⟨x, rfl, h⟩
theorem two_ok {a b : Bool} (h : (a && b) = true) : a = true ∧ b = true := Bool.and_eq_true_iff.mp h
noncomputable def seqD : Data → Option (Array Value × Nat)
  | .seq vs n => some (vs, n)
  | _ => none
theorem seqD_ok {d : Data} {p : Array Value × Nat} (h : seqD d = some p) : d = .seq p.1 p.2 := by
  cases d <;> cases h; rfl
theorem uncons {α : Type} {C : List α → Prop} {n : Nat} (h : ∀ a l, l.length = n → C (a :: l)) : ∀ l : List α, l.length = n + 1 → C l := fun l => by
  cases l with
  | nil => intro e; exact absurd e.symm (Nat.succ_ne_zero n)
  | cons a l => intro e; exact h a l (Nat.succ.inj e)
theorem unnil {α : Type} {C : List α → Prop} (h : C []) : ∀ l : List α, l.length = 0 → C l := fun l e => List.eq_nil_of_length_eq_zero e ▸ h
theorem all1 {α : Type} {C : List α → Prop} (h : ∀ a, C [a]) : ∀ vs : List α, vs.length = 1 → C vs := uncons fun a => unnil (C := fun l => C (a :: l)) (h a)
theorem all2 {α : Type} {C : List α → Prop} (h : ∀ a b, C [a, b]) : ∀ vs : List α, vs.length = 2 → C vs := uncons fun a => all1 (C := fun l => C (a :: l)) (h a)
theorem all3 {α : Type} {C : List α → Prop} (h : ∀ a b c, C [a, b, c]) : ∀ vs : List α, vs.length = 3 → C vs := uncons fun a => all2 (C := fun l => C (a :: l)) (h a)
noncomputable def locOrCell : Option NameKind → Bool
  | some .local => true
  | some .cell => true
  | _ => false
theorem kinds_of {sc : Scope} {names : List Str} (h : names.all (fun x => locOrCell (sc.names.lookup x)) = true) : ∀ x ∈ names, sc.names.lookup x = some .local ∨ sc.names.lookup x = some .cell := fun x hx => by
  have := List.all_eq_true.mp h x hx
  unfold locOrCell at this
  split at this
  · exact .inl ‹_›
  · exact .inr ‹_›
  · cases this
noncomputable abbrev kDef (Q : PV → Sto → Prop) (c : Ctl) (_ : Loc) (σ : Sto) : Prop := match c with
  | .ret p => Q p σ
  | .next => Q .none σ
  | _ => False
noncomputable def TDef (X : Txt) (k : Nat) (names : List Str) (body : List Stmt) (scope : Scope) (ps : List PV) (σ : Sto) (Q : PV → Sto → Prop) : Prop :=
  ∀ env : Env, env.scope = scope → env.func.isSome = true → TS X k env body (bindP (names.zip ps) fun _ => none) σ (kDef Q)

/-- a frame of this scope -/
noncomputable def envOf (sc : Scope) (e : Env) : Env := { e with scope := sc }
theorem TDef.in' {k : Nat} {names : List Str} {body : List Stmt} {scope : Scope} {ps : List PV} {σ : Sto} {Q : PV → Sto → Prop}
    (h : ∀ e : Env, (envOf scope e).func.isSome = true → TS X k (envOf scope e) body (bindP (names.zip ps) fun _ => none) σ (kDef Q)) : TDef X k names body scope ps σ Q := fun env h1 h2 => by
  subst h1; exact h env h2

open Classical in
theorem enter_core (T : X.Ok) {k : Nat} {A : Around} {fa : Addr} {fd : FuncData} {names : List Str} {body : List Stmt} {ps : List PV} {vs : List Value} {σ : Sto} {W : Map} {s s₁ : Shared} {Q : PV → Sto → Prop}
    (hgl : fd.globals = mainGlobals) (hbl : fd.builtins = builtinsNs) (hkinds : ∀ x ∈ names, fd.scope.names.lookup x = some .local ∨ fd.scope.names.lookup x = some .cell) (hkd : fd.scope.kind = .function) (hl : ps.length = names.length)
    (h : TDef X k names body fd.scope ps σ Q) (a : AOk (k + 1) A) (R : HRel X W σ s) (r : VRels W ps vs)
    (C : InCallC s (callEnvC fd s.heap.objs.size fa).locals (bindL (callEnvC fd s.heap.objs.size fa).kindOf (names.zip vs) fun _ => none) (callEnvC fd s.heap.objs.size fa).cells (bindC (callEnvC fd s.heap.objs.size fa).kindOf (names.zip vs) fun _ => none) s₁) :
    wpAny X.M (A.deeper (callEnvC fd s.heap.objs.size fa)) (execs body (callEnvC fd s.heap.objs.size fa)) (fun f s' => HPost X W Q (match f with | .ret v => v | _ => .none) s') (fun _ _ => False) s₁ := by
  generalize hL : s.heap.objs.size = L at *
  have henvk : ∀ x, (callEnvC fd L fa).kindOf x = fd.scope.names.lookup x := fun _ => rfl
  let own : Addr → Prop := fun b => b = L ∨ ∃ n, (cellsFrom (L + 1) fd.scope.names []).lookup n = some b
  let W' : Map := fun b => if own b then .own else W b
  have above : ∀ b, own b → W b = .no := fun b hb => by
    have hge : L ≤ b := by
      rcases hb with rfl | ⟨n, hn⟩
      · exact Nat.le_refl _
      · exact Nat.le_of_lt (C.above n b (mem_of_lookup hn))
    cases e : W b with
    | no => rfl
    | _ => have := R.lt (a := b) (by rw [e]; intro h; cases h); rw [hL] at this; exact absurd this (Nat.not_lt.mpr hge)
  have l : Le W W' := by
    exact (Le.refl W).off fun b hb => if_neg fun ho => hb (above b ho)
  obtain ⟨h₁, tk, hs₁⟩ := C.toInCall.same
  have keep := C.toInCall.keep
  have ownEx : ∀ b, own b → ∃ o, s₁.heap.get? b = some o := fun b hb => by
    rcases hb with rfl | ⟨n, hn⟩
    · obtain ⟨o, _, _, ho, _⟩ := C.toInCall.ns; exact ⟨o, ho⟩
    · obtain ⟨o, ho, _⟩ := C.cell n b hn; exact ⟨o, ho⟩
  have R' : HRel X W' σ s₁ := by
    refine ⟨fun b => ?_, fun b o e hb => l.fro _ _ (R.old b o e hb), fun b hb => ?_, fun b c => ?_, by rw [hs₁]; exact R.os, by rw [hs₁]; exact R.gens⟩
    · by_cases hb : own b
      · have : W' b = .own := if_pos hb
        rw [this]; exact ownEx b hb
      · have : W' b = W b := if_neg hb
        rw [this]; exact (R.ok b).mono T l.fro (keep b)
    · have := R.tab b hb
      show (if own b then Slot.own else W b) = _
      rw [if_neg (fun hb => by rw [above b hb] at this; cases this)]; exact this
    · rw [R.cel]
      by_cases hb : own b
      · have : W' b = .own := if_pos hb
        rw [this, above b hb]; exact ⟨fun e => (by cases e), fun e => (by cases e)⟩
      · have : W' b = W b := if_neg hb
        rw [this]
  have rel := bind_rel (W := W') (kd := (callEnvC fd L fa).kindOf) (m := fun _ => none) (cm := fun _ => none) (ρ := fun _ => none) (r.le l) hl.symm (fun x hx => hkinds x hx) (fun _ _ _ h => by cases h) (fun _ _ _ h => by cases h)
  have F' : FOk W' (callEnvC fd L fa) (bindP (names.zip ps) fun _ => none) s₁.heap := by
    refine ⟨hkd, hgl, hbl, if_pos (.inl rfl), ⟨_, C.toInCall.ns, rel.1⟩, fun x p hx hp => ?_, fun x hx => ?_, fun _ x c hx hc => if_pos (.inr ⟨x, hc⟩), fun x y c hx hy => name_of_addr C.apart (mem_of_lookup hx) (mem_of_lookup hy)⟩
    · obtain ⟨c, hc⟩ := Option.isSome_iff_exists.mp (cellsFrom_some fd.scope.names (L + 1) [] (.inl hx))
      obtain ⟨v, g1, g2⟩ := rel.2 x p hx hp
      exact ⟨c, v, hc, g1 ▸ C.cell x c hc, g2⟩
    · obtain ⟨c, hc⟩ := Option.isSome_iff_exists.mp (cellsFrom_some fd.scope.names (L + 1) [] (.inl hx))
      exact ⟨c, _, hc, fun e => absurd (C.above x c (mem_of_lookup hc)) (by rw [e]; exact Nat.lt_irrefl _), C.cell x c hc, .inl (if_pos (.inr ⟨x, hc⟩))⟩
  refine wpAny_mono ((h (callEnvC fd L fa) rfl rfl).run _ W' s₁ a.deeper R' F') (fun f s2 h2 => ?_) fun _ _ e => e.elim
  obtain ⟨W2, c, ρ2, σ2, l2, R2, F2, rc, h2⟩ := h2
  -- the frame is left: its own places are forgotten
  let W3 : Map := fun b => if own b then .no else W2 b
  have hown2 : ∀ b, own b → W2 b = .own := fun b hb => l2.own _ (if_pos hb)
  have l3 : Le W W3 := by
    exact (l.trans l2).off fun b hb => if_neg fun ho => hb (above b ho)
  have lf : ∀ b o, W2 b = .fro o → W3 b = .fro o := fun b o e => by
    show (if own b then Slot.no else W2 b) = _
    rw [if_neg (fun hb => by rw [hown2 b hb] at e; cases e)]; exact e
  have R3 : HRel X W3 σ2 s2 := by
    refine ⟨fun b => ?_, fun b o e hb => lf _ _ (R2.old b o e hb), fun b hb => ?_, fun b c => ?_, R2.os, R2.gens⟩
    · by_cases hb : own b
      · have : W3 b = .no := if_pos hb
        rw [this]; trivial
      · have : W3 b = W2 b := if_neg hb
        rw [this]; exact (R2.ok b).mono T lf (fun _ e => e)
    · have := R2.tab b hb
      show (if own b then Slot.no else W2 b) = _
      rw [if_neg (fun hb => by rw [hown2 b hb] at this; cases this)]; exact this
    · rw [R2.cel]
      by_cases hb : own b
      · have : W3 b = .no := if_pos hb
        rw [this, hown2 b hb]; exact ⟨fun e => (by cases e), fun e => (by cases e)⟩
      · have : W3 b = W2 b := if_neg hb
        rw [this]
  cases c with
  | next => cases rc; exact ⟨W3, .none, σ2, l3, R3, rfl, h2⟩
  | brk => exact h2.elim
  | cont => exact h2.elim
  | ret p => obtain ⟨v, rfl, rv⟩ := rc; exact ⟨W3, p, σ2, l3, R3, VRel.mono lf _ _ rv, h2⟩

theorem TOp.def' (T : X.Ok) {k : Nat} {fa : Addr} {names : List Str} {body : List Stmt} {scope : Scope} {ps : List PV} {σ : Sto} {Q : PV → Sto → Prop} (D : DefAt X fa names body scope) (hl : ps.length = names.length)
    (h : TDef X k names body scope ps σ Q) : TOp X (k + 1) (fun vs => PySem.call (.ref fa) vs) ps σ Q := .mk fun A W s vs a R r => by
  obtain ⟨o, fd, hK, hd, hbody, hsc, hclo, hgl, hbl, hcode, hbind⟩ := D.fn
  have ho := R.K T _ _ hK
  have hvl : vs.length = names.length := by rw [r.length]; exact hl
  subst hsc
  refine wpAny_call (codeAny_call_cells (fd := fd) (body := body) a.lim ho hd (R.limit T) (codeRec_of (R.K T) hcode) hbody (hbind vs hvl) hclo (fun x hx => ?_) (fun s₁ C => ?_) D.co D.gen D.kind)
  · have := D.kinds x.1 (List.of_mem_zip hx).1
    rcases this with e | e
    · exact .inl e
    · exact .inr ⟨e, cellsFrom_some _ _ _ (.inl e)⟩
  · exact wpAny_mono (enter_core T hgl hbl D.kinds D.kind hl h a R r C) (fun _ _ q => q) fun _ _ e => e.elim
end Mine

end
section
open PySem PySem.W PyProof.Rows
set_option Elab.async false
set_option linter.unusedVariables false
namespace Mine
variable {X : Txt} {k : Nat} {σ : Sto} {Q : PV → Sto → Prop}

/-- an operation on two values that makes a scalar -/
theorem TOp.scal2 {f : Value → Value → Sem Value} {pa pb r : PV} (hf : ∀ A W s va vb (Q' : Value → Shared → Prop), AOk k A → HRel X W σ s → VRel W pa va → VRel W pb vb → (∀ v t, VRel W r v → Q' v { s with toks := t }) → wpAny X.M A (f va vb) Q' (fun _ _ => False) s)
    (hq : Q r σ) : TOp X k (op2 f) [pa, pb] σ Q := .mk fun A W s vs a R rs => by
  obtain ⟨va, _, rfl, ra, vb, _, rfl, rb, rfl⟩ := rs
  exact hf A W s va vb _ a R ra rb fun v t r => ⟨W, _, σ, Le.refl W, R.toks t, r, hq⟩

theorem TOp.addI {a b : Int} (h : Q (.int (a + b)) σ) : TOp X k (op2 (binaryOp .Add)) [.int a, .int b] σ Q :=
  TOp.scal2 (r := .int (a + b)) (fun A W s va vb Q' _ R ra rb q => by obtain ⟨t, rfl⟩ := ra; obtain ⟨u, rfl⟩ := rb; exact PySem.P.add_int (q _ _ ⟨_, rfl⟩)) h
theorem TOp.subI {a b : Int} (h : Q (.int (a - b)) σ) : TOp X k (op2 (binaryOp .Sub)) [.int a, .int b] σ Q :=
  TOp.scal2 (r := .int (a - b)) (fun A W s va vb Q' _ R ra rb q => by obtain ⟨t, rfl⟩ := ra; obtain ⟨u, rfl⟩ := rb; exact PySem.P.sub_int (q _ _ ⟨_, rfl⟩)) h
theorem TOp.iaddI {a b : Int} (h : Q (.int (a + b)) σ) : TOp X k (op2 (inplaceOp .Add)) [.int a, .int b] σ Q :=
  TOp.scal2 (r := .int (a + b)) (fun A W s va vb Q' _ R ra rb q => by obtain ⟨t, rfl⟩ := ra; obtain ⟨u, rfl⟩ := rb; exact PySem.P.iadd_int (q _ _ ⟨_, rfl⟩)) h
theorem TOp.modI {a b : Int} (hb : b ≠ 0) (h : Q (.int (a.fmod b)) σ) : TOp X k (op2 (binaryOp .Mod)) [.int a, .int b] σ Q :=
  TOp.scal2 (r := .int (a.fmod b)) (fun A W s va vb Q' _ R ra rb q => by obtain ⟨t, rfl⟩ := ra; obtain ⟨u, rfl⟩ := rb; exact PyProof.Rows.mod_int' hb (q _ _ ⟨_, rfl⟩)) h
theorem TOp.divI {a b : Int} (hb : b ≠ 0) (hp : Builtin.divisionGoesByPylong a b = false) (h : Q (.int (a.fdiv b)) σ) : TOp X k (op2 (binaryOp .FloorDiv)) [.int a, .int b] σ Q :=
  TOp.scal2 (r := .int (a.fdiv b)) (fun A W s va vb Q' _ R ra rb q => by obtain ⟨t, rfl⟩ := ra; obtain ⟨u, rfl⟩ := rb; exact PyProof.Rows.floordiv_int hb (q _ _ ⟨_, rfl⟩) (.inl hp)) h
theorem TOp.andI {a b : Int} (h : Q (.int (Builtin.bitAnd a b)) σ) : TOp X k (op2 (binaryOp .BitAnd)) [.int a, .int b] σ Q :=
  TOp.scal2 (r := .int (Builtin.bitAnd a b)) (fun A W s va vb Q' _ R ra rb q => by obtain ⟨t, rfl⟩ := ra; obtain ⟨u, rfl⟩ := rb; exact PyProof.Rows.and_int (q _ _ ⟨_, rfl⟩)) h
theorem TOp.powI {a n : Int} (hn : 0 ≤ n) (hn2 : n ≤ 1000000) (ha : a.natAbs < 2 ^ 64) (h : Q (.int (a ^ n.toNat)) σ) : TOp X k (op2 (binaryOp .Pow)) [.int a, .int n] σ Q :=
  TOp.scal2 (r := .int (a ^ n.toNat)) (fun A W s va vb Q' _ R ra rb q => by obtain ⟨t, rfl⟩ := ra; obtain ⟨u, rfl⟩ := rb; exact PyProof.Rows.pow_int_small hn hn2 ha (q _ _ ⟨_, rfl⟩)) h
theorem TOp.eqI {a b : Int} (h : Q (.bool (a == b)) σ) : TOp X k (op2 (compareOp .Eq)) [.int a, .int b] σ Q :=
  TOp.scal2 (r := .bool (a == b)) (fun A W s va vb Q' _ R ra rb q => by obtain ⟨t, rfl⟩ := ra; obtain ⟨u, rfl⟩ := rb; exact PySem.P.eq_int (q _ s.toks rfl)) h
theorem TOp.neI {a b : Int} (h : Q (.bool (a != b)) σ) : TOp X k (op2 (compareOp .NotEq)) [.int a, .int b] σ Q :=
  TOp.scal2 (r := .bool (a != b)) (fun A W s va vb Q' _ R ra rb q => by obtain ⟨t, rfl⟩ := ra; obtain ⟨u, rfl⟩ := rb; exact PySem.P.ne_int (q _ s.toks rfl)) h
theorem TOp.ltI {a b : Int} (h : Q (.bool (decide (a < b))) σ) : TOp X k (op2 (compareOp .Lt)) [.int a, .int b] σ Q :=
  TOp.scal2 (r := .bool (decide (a < b))) (fun A W s va vb Q' _ R ra rb q => by obtain ⟨t, rfl⟩ := ra; obtain ⟨u, rfl⟩ := rb; exact PySem.P.lt_int (q _ s.toks rfl)) h
theorem TOp.leI {a b : Int} (h : Q (.bool (decide (a ≤ b))) σ) : TOp X k (op2 (compareOp .LtE)) [.int a, .int b] σ Q :=
  TOp.scal2 (r := .bool (decide (a ≤ b))) (fun A W s va vb Q' _ R ra rb q => by obtain ⟨t, rfl⟩ := ra; obtain ⟨u, rfl⟩ := rb; exact PySem.P.le_int (q _ s.toks rfl)) h
theorem TOp.gtI {a b : Int} (h : Q (.bool (decide (a > b))) σ) : TOp X k (op2 (compareOp .Gt)) [.int a, .int b] σ Q :=
  TOp.scal2 (r := .bool (decide (a > b))) (fun A W s va vb Q' _ R ra rb q => by obtain ⟨t, rfl⟩ := ra; obtain ⟨u, rfl⟩ := rb; exact PySem.P.gt_int (q _ s.toks rfl)) h
theorem TOp.geI {a b : Int} (h : Q (.bool (decide (a ≥ b))) σ) : TOp X k (op2 (compareOp .GtE)) [.int a, .int b] σ Q :=
  TOp.scal2 (r := .bool (decide (a ≥ b))) (fun A W s va vb Q' _ R ra rb q => by obtain ⟨t, rfl⟩ := ra; obtain ⟨u, rfl⟩ := rb; exact PySem.P.ge_int (q _ s.toks rfl)) h
theorem TOp.eqS {a b : Str} (h : Q (.bool (a.cps.toList == b.cps.toList)) σ) : TOp X k (op2 (compareOp .Eq)) [.str a, .str b] σ Q :=
  TOp.scal2 (r := .bool (a.cps.toList == b.cps.toList)) (fun A W s va vb Q' _ R ra rb q => by obtain ⟨_, t, rfl⟩ := ra; obtain ⟨_, u, rfl⟩ := rb; exact PySem.P.eq_str (q _ s.toks rfl)) h
theorem TOp.neS {a b : Str} (h : Q (.bool (a.cps.toList != b.cps.toList)) σ) : TOp X k (op2 (compareOp .NotEq)) [.str a, .str b] σ Q :=
  TOp.scal2 (r := .bool (a.cps.toList != b.cps.toList)) (fun A W s va vb Q' _ R ra rb q => by obtain ⟨_, t, rfl⟩ := ra; obtain ⟨_, u, rfl⟩ := rb; exact PySem.P.ne_str (q _ s.toks rfl)) h
theorem TOp.addS {a b : Str} (hl : a.length + b.length ≤ sizeLine) (h : Q (.str (a ++ b)) σ) : TOp X k (op2 (binaryOp .Add)) [.str a, .str b] σ Q :=
  TOp.scal2 (r := .str (a ++ b)) (fun A W s va vb Q' _ R ra rb q => by
    obtain ⟨_, t, rfl⟩ := ra; obtain ⟨_, u, rfl⟩ := rb
    exact SB.add (fun t' k => q _ k ⟨by rw [Str.length_append]; exact hl, _, rfl⟩) hl) h
theorem TOp.iaddS {a b : Str} (hl : a.length + b.length ≤ sizeLine) (h : Q (.str (a ++ b)) σ) : TOp X k (op2 (inplaceOp .Add)) [.str a, .str b] σ Q :=
  TOp.scal2 (r := .str (a ++ b)) (fun A W s va vb Q' _ R ra rb q => by
    obtain ⟨_, t, rfl⟩ := ra; obtain ⟨_, u, rfl⟩ := rb
    exact SB.iadd (fun t' k => q _ k ⟨by rw [Str.length_append]; exact hl, _, rfl⟩) hl) h

/-! subscripts -/
theorem subscripted_ok {A : Around} {E : Value → Shared → Prop} {s : Shared} {sl : Expr} {o i : Value} {Q : Value → Shared → Prop} (h : wpAny X.M A (getItem o i) Q E s) : wpAny X.M A (subscripted sl false o i) Q E s := by
  cases sl with
  | Slice a b c p => cases c with
    | none => exact wpAny_operating h
    | some c => exact wpAny_operating h
  | _ => exact wpAny_operating h
theorem tail_ok {A : Around} {E : Value → Shared → Prop} {s : Shared} {v sl : Expr} {o i : Value} {T id : String} {Q : Value → Shared → Prop} (hT : s.TypeIs o T)
    (hl : typeLookup (.type T) "__getitem__" = pure (some (.builtin id))) (h : wpAny X.M A (getItem o i) Q E s) : wpAny X.M A (subscriptTail v sl o i) Q E s := by
  unfold subscriptTail
  refine wpAny_bind ?_
  rw [getitemInPython_of_ne hT.not_modules]
  refine wpAny_bind (wpAny_specialOf hT hl ?_)
  have fin : wpAny X.M A (subscripted sl false o i) (fun r s₃ => wpAny X.M A (letTemporaryGo v o r >>= fun _ => pure r) Q E s₃) E s :=
    subscripted_ok (wpAny_mono h (fun r s₃ h₃ => wpAny_bind (wpAny_letTemporaryGo (wpAny_pure h₃))) fun _ _ x => x)
  first
    | exact wpAny_pure (wpAny_bind fin)
    | exact wpAny_bind (wpAny_pure (wpAny_bind fin))
    | exact wpAny_bind fin
theorem TE.sub (T : X.Ok) {env : Env} {ρ : Loc} {v sl : Expr} {pos : Pos} (h : TE X k env v ρ σ (kArg X k env sl ρ (subscriptTail v sl) Q)) : TE X k env (.Subscript v sl pos) ρ σ Q := .mk fun A W s a R F => by
  refine Subscript_ (wpAny_mono (h.run A W s a R F) (fun v1 s1 h1 => ?_) fun _ _ e => e)
  obtain ⟨W1, p1, σ1, l1, R1, F1, r1, h1⟩ := h1
  refine wpAny_mono (h1.run A W1 s1 a R1 F1) (fun v2 s2 h2 => ?_) fun _ _ e => e
  obtain ⟨W2, p2, σ2, l2, R2, F2, r2, h2⟩ := h2
  exact wpAny_mono (lift T h2 a R2 F2 (vs := [v1, v2]) ⟨v1, _, rfl, r1.le l2, v2, _, rfl, r2, rfl⟩) (fun _ _ q => (q.le l2).le l1) fun _ _ e => e
/-- an item of a list -/
theorem TOp.itemL {v sl : Expr} {xs : List PV} {i : Int} {p : PV} (h0 : 0 ≤ i) (hx : xs[i.toNat]? = some p) (h : Q p σ) : TOp X k (op2 (subscriptTail v sl)) [.lst xs, .int i] σ Q := .mk fun A W s vs a R rs => by
  obtain ⟨va, _, rfl, ra, vb, _, rfl, ⟨t, rfl⟩, rfl⟩ := rs
  obtain ⟨l, us, rfl, hl, z, q⟩ := VRel.isList R ra
  obtain ⟨u, hu, ru⟩ := q.get _ _ hx
  have hi : i.toNat < xs.length := by have := List.getElem?_eq_some_iff.mp hx; exact this.1
  have hz : i < 2 ^ 63 := by have := sizeLine_lt; have := q.length; lia
  exact tail_ok hl.typeIs slot_list_getitem.lookup (wpAny_getItem_list hl h0 hz (by rw [List.getElem?_toArray]; exact hu) (HPost.here R ru h))
theorem TOp.itemLneg {v sl : Expr} {xs : List PV} {i : Int} {p : PV} (h0 : i < 0) (h1 : -(xs.length : Int) ≤ i) (hx : xs[(i + xs.length).toNat]? = some p) (h : Q p σ) : TOp X k (op2 (subscriptTail v sl)) [.lst xs, .int i] σ Q := .mk fun A W s vs a R rs => by
  obtain ⟨va, _, rfl, ra, vb, _, rfl, ⟨t, rfl⟩, rfl⟩ := rs
  obtain ⟨l, us, rfl, hl, z, q⟩ := VRel.isList R ra
  obtain ⟨u, hu, ru⟩ := q.get _ _ hx
  have hq := q.length
  have hz := sizeLine_lt
  exact tail_ok hl.typeIs slot_list_getitem.lookup (wpAny_getItem_list_neg hl h0 (by rw [List.size_toArray, hq]; exact h1) (by lia) (by rw [List.size_toArray, hq, List.getElem?_toArray]; exact hu) (HPost.here R ru h))
/-- an item of a list that still grows -/
theorem TOp.itemP {v sl : Expr} {xs : List PV} {b : Addr} {i : Int} {p : PV} (hb : σ b = some (.list xs)) (h0 : 0 ≤ i) (hx : xs[i.toNat]? = some p) (h : Q p σ) : TOp X k (op2 (subscriptTail v sl)) [.ptr b, .int i] σ Q := .mk fun A W s vs a R rs => by
  obtain ⟨va, _, rfl, rfl, vb, _, rfl, ⟨t, rfl⟩, rfl⟩ := rs
  obtain ⟨us, n, ho, z, q⟩ := R.at' ((R.cel b _).mp hb)
  have hl : s.heap.IsList b us.toArray := ⟨_, ho, rfl, n, rfl⟩
  obtain ⟨u, hu, ru⟩ := q.get _ _ hx
  have hi : i.toNat < xs.length := by have := List.getElem?_eq_some_iff.mp hx; exact this.1
  have hz : i < 2 ^ 63 := by have := sizeLine_lt; have := q.length; lia
  exact tail_ok hl.typeIs slot_list_getitem.lookup (wpAny_getItem_list hl h0 hz (by rw [List.getElem?_toArray]; exact hu) (HPost.here R ru h))
theorem TOp.itemPneg {v sl : Expr} {xs : List PV} {b : Addr} {i : Int} {p : PV} (hb : σ b = some (.list xs)) (h0 : i < 0) (h1 : -(xs.length : Int) ≤ i) (hx : xs[(i + xs.length).toNat]? = some p) (h : Q p σ) : TOp X k (op2 (subscriptTail v sl)) [.ptr b, .int i] σ Q := .mk fun A W s vs a R rs => by
  obtain ⟨va, _, rfl, rfl, vb, _, rfl, ⟨t, rfl⟩, rfl⟩ := rs
  obtain ⟨us, n, ho, z, q⟩ := R.at' ((R.cel b _).mp hb)
  have hl : s.heap.IsList b us.toArray := ⟨_, ho, rfl, n, rfl⟩
  obtain ⟨u, hu, ru⟩ := q.get _ _ hx
  have hq := q.length
  have hz := sizeLine_lt
  exact tail_ok hl.typeIs slot_list_getitem.lookup (wpAny_getItem_list_neg hl h0 (by rw [List.size_toArray, hq]; exact h1) (by lia) (by rw [List.size_toArray, hq, List.getElem?_toArray]; exact hu) (HPost.here R ru h))
/-- reading a name and leaving it as it is -/
theorem TE.raw {env : Env} {ρ : Loc} {x : Str} {pos : Pos} {p : PV} (hk : env.kindOf x = some .local ∨ env.kindOf x = some .cell) (hp : ρ x = some p) (hd : (x == ("__debug__" : Str)) = false) (h : Q p σ) : TE X k env (.Name x pos) ρ σ Q := .mk fun A W s a R F => by
  rcases hk with hk | hk
  · obtain ⟨m, hn, hm⟩ := F.ns
    obtain ⟨v, h1, h2⟩ := hm x p hk hp
    exact wpAny_Name (wpAny_loadName_local F.kind hk hn h1 (VPost.here R F h2 h)) hd
  · obtain ⟨c, v, h1, h2, h3⟩ := F.cel x p hk hp
    exact wpAny_Name (wpAny_loadName_cell F.kind hk h1 h2 (VPost.here R F h3 h)) hd
end Mine

end
section
open PySem PySem.W PyProof.Rows
set_option Elab.async false
set_option linter.unusedVariables false
namespace Mine
variable {X : Txt}

theorem Loc.hit {ρ : Loc} {x : Str} {p : PV} : (ρ.set x p) x = some p := by simp [Loc.set]
theorem Loc.miss {ρ : Loc} {x y : Str} {p q : PV} (h : y ≠ x) (e : ρ y = some q) : (ρ.set x p) y = some q := by simp [Loc.set, h, e]
theorem Loc.skip {ρ : Loc} {x y : Str} {p : PV} (h : y ≠ x) : (ρ.set x p) y = ρ y := by simp [Loc.set, h]
theorem Loc.missn {ρ : Loc} {x y : Str} {p : PV} {q : Option PV} (h : y ≠ x) (e : ρ y = q) : (ρ.set x p) y = q := by simp [Loc.set, h, e]
theorem ite_dec {p : Prop} [Decidable p] {A B : Prop} (h1 : p → A) (h2 : ¬p → B) : Br (decide p) A B := ⟨fun e => h1 (by simpa using e), fun e => h2 (by simpa using e)⟩
theorem ite_beq {α : Type} [DecidableEq α] {a b : α} {A B : Prop} (h1 : a = b → A) (h2 : a ≠ b → B) : Br (a == b) A B := ⟨fun e => h1 (by simpa using e), fun e => h2 (by simpa using e)⟩
theorem ite_bne {α : Type} [DecidableEq α] {a b : α} {A B : Prop} (h1 : a ≠ b → A) (h2 : a = b → B) : Br (a != b) A B := ⟨fun e => h1 (by simpa using e), fun e => h2 (by simpa using e)⟩
theorem ite_bool {b : Bool} {A B : Prop} (h1 : b = true → A) (h2 : b = false → B) : Br b A B := ⟨h1, h2⟩

section
variable {k : Nat} {env : Env} {ρ : Loc} {σ : Sto}
theorem TOp.mono {f : List Value → Sem Value} {ps : List PV} {Q Q' : PV → Sto → Prop} (h : TOp X k f ps σ Q) (i : ∀ p σ, Q p σ → Q' p σ) : TOp X k f ps σ Q' := .mk fun A W s vs a R r =>
  wpAny_mono (h.run A W s vs a R r) (fun v s' ⟨W', p, σ', l, R', r', q⟩ => ⟨W', p, σ', l, R', r', i _ _ q⟩) fun _ _ e => e
theorem TOp.id {f : List Value → Sem Value} {ps : List PV} {Q : PV → Sto → Prop} (h : TOp X k f ps σ Q) : TOp X k f ps σ Q := h
theorem TE.mono {e : Expr} {Q Q' : PV → Sto → Prop} (h : TE X k env e ρ σ Q) (i : ∀ p σ, Q p σ → Q' p σ) : TE X k env e ρ σ Q' := .mk fun A W s a R F =>
  wpAny_mono (h.run A W s a R F) (fun v s' ⟨W', p, σ', l, R', F', r', q⟩ => ⟨W', p, σ', l, R', F', r', i _ _ q⟩) fun _ _ e => e
theorem TT.mono {e : Expr} {Q Q' : Bool → Sto → Prop} (h : TT X k env e ρ σ Q) (i : ∀ p σ, Q p σ → Q' p σ) : TT X k env e ρ σ Q' := .mk fun A W s a R F =>
  wpAny_mono (h.run A W s a R F) (fun v s' ⟨W', σ', l, R', F', q⟩ => ⟨W', σ', l, R', F', i _ _ q⟩) fun _ _ e => e
theorem T1.mono {st : Stmt} {Q Q' : Ctl → Loc → Sto → Prop} (h : T1 X k env st ρ σ Q) (i : ∀ c ρ σ, Q c ρ σ → Q' c ρ σ) : T1 X k env st ρ σ Q' := .mk fun A W s a R F =>
  wpAny_mono (h.run A W s a R F) (fun v s' ⟨W', c, ρ', σ', l, R', F', r', q⟩ => ⟨W', c, ρ', σ', l, R', F', r', i _ _ _ q⟩) fun _ _ e => e
theorem TS.mono {ss : List Stmt} {Q Q' : Ctl → Loc → Sto → Prop} (h : TS X k env ss ρ σ Q) (i : ∀ c ρ σ, Q c ρ σ → Q' c ρ σ) : TS X k env ss ρ σ Q' := .mk fun A W s a R F =>
  wpAny_mono (h.run A W s a R F) (fun v s' ⟨W', c, ρ', σ', l, R', F', r', q⟩ => ⟨W', c, ρ', σ', l, R', F', r', i _ _ _ q⟩) fun _ _ e => e
theorem TAsg.mono {tg : Expr} {p : PV} {Q Q' : Loc → Sto → Prop} (h : TAsg X k env tg p ρ σ Q) (i : ∀ ρ σ, Q ρ σ → Q' ρ σ) : TAsg X k env tg p ρ σ Q' := .mk fun A W s v a R F r =>
  wpAny_mono (h.run A W s v a R F r) (fun v s' ⟨W', ρ', σ', l, R', F', q⟩ => ⟨W', ρ', σ', l, R', F', i _ _ q⟩) fun _ _ e => e
theorem TTAnd.mono : ∀ {es : List Expr} {σ : Sto} {Q Q' : Bool → Sto → Prop}, TTAnd X k env es ρ σ Q → (∀ p σ, Q p σ → Q' p σ) → TTAnd X k env es ρ σ Q'
  | [], σ, Q, Q', h, i => i _ _ h
  | e :: es, σ, Q, Q', h, i => TT.mono h fun b σ1 h1 => by
    exact h1.imp (fun h1 => TTAnd.mono h1 i) (i _ _)
/-- a for with an invariant over what is left -/
theorem TFor.inv {tg : Expr} {body orelse : List Stmt} {Q : Ctl → Loc → Sto → Prop} (I : List PV → Loc → Sto → Prop)
    (hs : ∀ x xs ρ σ, I (x :: xs) ρ σ → TAsg X k env tg x ρ σ (kBody X k env body (kTurn (I xs) Q)))
    (he : ∀ ρ σ, I [] ρ σ → TS X k env orelse ρ σ Q) : ∀ {xs : List PV} {ρ : Loc} {σ : Sto}, I xs ρ σ → TFor X k env tg body orelse xs ρ σ Q
  | [], ρ, σ, h => he ρ σ h
  | x :: xs, ρ, σ, h => TAsg.mono (hs x xs ρ σ h) fun ρ1 σ1 h1 => TS.mono h1 fun c ρ2 σ2 h2 => by
    cases c with
    | next => exact TFor.inv I hs he h2
    | cont => exact TFor.inv I hs he h2
    | brk => exact h2
    | ret p => exact h2
theorem TGens.done {elt : Expr} {g : Comprehension} {gs : List Comprehension} {Q : List PV → Loc → Sto → Prop} {acc : List PV} (h : Q acc ρ σ) : TGens X k env elt (g :: gs) [] acc ρ σ Q := h
end
end Mine

end
section
open PySem PySem.W PyProof.Rows
set_option Elab.async false
set_option linter.unusedVariables false
namespace Mine
variable {X : Txt}

theorem fitsLong {i : Int} (h1 : -(2 ^ 63) ≤ i) (h2 : i < 2 ^ 63) : Builtin.Range.rangeFitsLong i = true := by
  unfold Builtin.Range.rangeFitsLong; simp only [Bool.and_eq_true, decide_eq_true_eq]; exact ⟨h1, h2⟩
theorem size_up (m n : Int) : Builtin.Range.rangeSize m n 1 = ((n - m).toNat : Int) := by
  unfold Builtin.Range.rangeSize
  rw [if_pos (by decide), Int.ediv_one]
  split <;> lia
theorem size_down (m n : Int) : Builtin.Range.rangeSize m n (-1) = ((m - n).toNat : Int) := by
  unfold Builtin.Range.rangeSize
  rw [if_neg (by decide)]
  have : (-(-1) : Int) = 1 := by decide
  rw [this, Int.ediv_one]
  split <;> lia
theorem up_fits {m n : Int} (h1 : -(2 ^ 61) ≤ m) (h2 : m < 2 ^ 61) (h3 : -(2 ^ 61) ≤ n) (h4 : n < 2 ^ 61) : rangeFits m n 1 := by
  refine ⟨?_, by rw [size_up]; lia⟩
  unfold Builtin.Range.small
  rw [size_up]
  simp only [Bool.and_eq_true, Bool.or_eq_true]
  refine ⟨⟨⟨⟨fitsLong (by lia) (by lia), fitsLong (by lia) (by lia)⟩, by decide⟩, fitsLong (by lia) (by lia)⟩, .inr ?_⟩
  rw [if_pos (by decide)]; exact fitsLong (by lia) (by lia)
theorem down_fits {m n : Int} (h1 : -(2 ^ 61) ≤ m) (h2 : m < 2 ^ 61) (h3 : -(2 ^ 61) ≤ n) (h4 : n < 2 ^ 61) : rangeFits m n (-1) := by
  refine ⟨?_, by rw [size_down]; lia⟩
  unfold Builtin.Range.small
  rw [size_down]
  simp only [Bool.and_eq_true, Bool.or_eq_true]
  refine ⟨⟨⟨⟨fitsLong (by lia) (by lia), fitsLong (by lia) (by lia)⟩, by decide⟩, fitsLong (by lia) (by lia)⟩, .inr ?_⟩
  rw [if_neg (by decide)]; exact fitsLong (by lia) (by lia)
theorem of_up (m n : Int) : rangeOf m n 1 = rangeFrom m 1 (n - m).toNat := by unfold rangeOf; rw [size_up, Int.toNat_natCast]
theorem of_down (m n : Int) : rangeOf m n (-1) = rangeFrom m (-1) (m - n).toNat := by unfold rangeOf; rw [size_down, Int.toNat_natCast]

section
variable {k : Nat} {env : Env} {ρ : Loc} {σ : Sto} {Q : PV → Sto → Prop}
theorem TOp.modP {a b : Int} (hb : 0 < b) (h : Q (.int (a % b)) σ) : TOp X k (op2 (binaryOp .Mod)) [.int a, .int b] σ Q :=
  TOp.modI (by lia) (by rw [Int.fmod_eq_emod_of_nonneg _ (by lia)]; exact h)
theorem TOp.divP {a b : Int} (hb : 0 < b) (hb2 : b < 1073741824) (h : Q (.int (a / b)) σ) : TOp X k (op2 (binaryOp .FloorDiv)) [.int a, .int b] σ Q :=
  TOp.divI (by lia) (PyProof.noPylong_small (by lia)) (by rw [Int.fdiv_eq_ediv_of_nonneg _ (by lia)]; exact h)
noncomputable abbrev kNeg (Q : PV → Sto → Prop) (p : PV) (σ : Sto) : Prop := ∃ i, p = .int i ∧ Q (.int (-i)) σ
theorem TE.neg {e : Expr} {pos : Pos} (h : TE X k env e ρ σ (kNeg Q)) : TE X k env (.UnaryOp .USub e pos) ρ σ Q := .mk fun A W s a R F => by
  refine UnaryOp_ (wpAny_mono (h.run A W s a R F) (fun v s1 h1 => ?_) fun _ _ e => e)
  obtain ⟨W1, p, σ1, l1, R1, F1, r1, i, rfl, q⟩ := h1
  obtain ⟨t, rfl⟩ := r1
  exact PySem.P.neg_int (VPost.le l1 (VPost.here (p := .int (-i)) (R1.toks _) F1 ⟨_, rfl⟩ q))
theorem TI.up1 (T : X.Ok) {f : Str} {e : Expr} {p pos : Pos} {Q : List PV → Sto → Prop} (hf : isRangeName X env f) (hn : noStar [e] = true)
    (h : TE X k env e ρ σ fun p σ1 => ∃ n, p = .int n ∧ (-(2 ^ 61) ≤ n ∧ n < 2 ^ 61) ∧ Q (rangeFrom 0 1 n.toNat) σ1) : TI X k env (.Call (.Name f p) [e] [] pos) ρ σ Q :=
  TI.range1 T hf hn (h.mono fun p σ1 ⟨n, e, ⟨h1, h2⟩, q⟩ => ⟨n, e, up_fits (by decide) (by decide) h1 h2, by rw [of_up, Int.sub_zero]; exact q⟩)
theorem TI.up2 (T : X.Ok) {f : Str} {e1 e2 : Expr} {p pos : Pos} {Q : List PV → Sto → Prop} (hf : isRangeName X env f) (hn : noStar [e1, e2] = true)
    (h : TE X k env e1 ρ σ fun p1 σ1 => TE X k env e2 ρ σ1 fun p2 σ2 => ∃ m n, p1 = .int m ∧ p2 = .int n ∧ (-(2 ^ 61) ≤ m ∧ m < 2 ^ 61) ∧ (-(2 ^ 61) ≤ n ∧ n < 2 ^ 61) ∧ Q (rangeFrom m 1 (n - m).toNat) σ2) : TI X k env (.Call (.Name f p) [e1, e2] [] pos) ρ σ Q :=
  TI.range2 T hf hn (h.mono fun p1 σ1 h1 => h1.mono fun p2 σ2 ⟨m, n, e1, e2, ⟨a1, a2⟩, ⟨a3, a4⟩, q⟩ => ⟨m, n, e1, e2, up_fits a1 a2 a3 a4, by rw [of_up]; exact q⟩)
theorem TI.down3 (T : X.Ok) {f : Str} {e1 e2 e3 : Expr} {p pos : Pos} {Q : List PV → Sto → Prop} (hf : isRangeName X env f) (hn : noStar [e1, e2, e3] = true)
    (h : TE X k env e1 ρ σ fun p1 σ1 => TE X k env e2 ρ σ1 fun p2 σ2 => TE X k env e3 ρ σ2 fun p3 σ3 => ∃ m n, p1 = .int m ∧ p2 = .int n ∧ p3 = .int (-1) ∧ (-(2 ^ 61) ≤ m ∧ m < 2 ^ 61) ∧ (-(2 ^ 61) ≤ n ∧ n < 2 ^ 61) ∧ Q (rangeFrom m (-1) (m - n).toNat) σ3) :
    TI X k env (.Call (.Name f p) [e1, e2, e3] [] pos) ρ σ Q :=
  TI.range3 T hf hn (h.mono fun p1 σ1 h1 => h1.mono fun p2 σ2 h2 => h2.mono fun p3 σ3 ⟨m, n, e1, e2, e3, ⟨a1, a2⟩, ⟨a3, a4⟩, q⟩ =>
    ⟨m, n, -1, e1, e2, e3, by decide, PyProof.noPylong_small (by decide), down_fits a1 a2 a3 a4, by rw [of_down]; exact q⟩)
end
end Mine

end
section
open PySem PySem.W PyProof.Rows
set_option Elab.async false
set_option linter.unusedVariables false
namespace Mine
variable {X : Txt}

/-! the store -/
theorem Sto.hit {σ : Sto} {a : Addr} {c : Option Cell} : (σ.set a c) a = c := by simp [Sto.set]
theorem Sto.skip {σ : Sto} {a b : Addr} {c : Option Cell} (h : b ≠ a) : (σ.set a c) b = σ b := by simp [Sto.set, h]
theorem Sto.fresh {σ : Sto} {a b : Addr} {c : Cell} (ha : σ a = none) (hb : σ b = some c) : b ≠ a := by rintro rfl; rw [ha] at hb; cases hb
theorem Sto.back {σ : Sto} {a : Addr} {c : Option Cell} (h : σ a = none) : (σ.set a c).set a none = σ := by
  funext b; unfold Sto.set; by_cases e : b = a
  · subst e; simp [h]
  · simp [e]
theorem Sto.over {σ : Sto} {a : Addr} {c d : Option Cell} : (σ.set a c).set a d = σ.set a d := by
  funext b; unfold Sto.set; by_cases e : b = a <;> simp [e]
theorem Sto.swap {σ : Sto} {a b : Addr} {c d : Option Cell} (h : a ≠ b) : (σ.set a c).set b d = (σ.set b d).set a c := by
  funext x; unfold Sto.set; by_cases e : x = a
  · subst e; simp [h]
  · by_cases e2 : x = b <;> simp [e, e2, h, Ne.symm h]

theorem CellAt.obj {W : Map} {h : Heap} {a : Addr} {c : Cell} (x : CellAt X W h a c) : ∃ o, h.get? a = Option.some o := CellAt.some x
/-- a cell is left as it is from here on -/
theorem HRel.still (T : X.Ok) {W : Map} {σ : Sto} {s : Shared} (R : HRel X W σ s) (a : Addr) : ∃ W', Le W W' ∧ HRel X W' (σ.set a none) s := by
  cases h : σ a with
  | none =>
    have : σ.set a none = σ := by
      funext b; unfold Sto.set; by_cases e : b = a
      · subst e; simp [h]
      · simp [e]
    rw [this]; exact ⟨W, Le.refl W, R⟩
  | some c =>
    have hW := (R.cel a c).mp h
    obtain ⟨o, ho⟩ := CellAt.obj (R.at' hW)
    refine ⟨W.set a (.fro o), ?_, ?_⟩
    · refine ⟨fun b o e => ?_, fun b o e => ?_, fun b e => ?_, fun b e => ?_⟩
      · exact (Map.set_ne (by first | exact nq e (hW) rfl | exact Ne.symm (nq e (hW) rfl))).trans e
      · exact (Map.set_ne (by first | exact nq e (hW) rfl | exact Ne.symm (nq e (hW) rfl))).trans e
      · exact (Map.set_ne (by first | exact nq e (hW) rfl | exact Ne.symm (nq e (hW) rfl))).trans e
      · by_cases q : b = a
        · subst q; rw [Map.set_self] at e; cases e
        · rwa [Map.set_ne q] at e
    · exact R.same T (a := a) (x := .fro o) (h' := s.heap) (Heap.SameBut.refl _ _) (by intro o e; rw [hW] at e; cases e) (by rw [hW]; intro e; cases e) (by intro e; cases e) ho s.toks

section
variable {k : Nat} {env : Env} {ρ : Loc} {σ : Sto}
theorem TS.drop (T : X.Ok) {ss : List Stmt} {Q : Ctl → Loc → Sto → Prop} (a : Addr) (h : TS X k env ss ρ (σ.set a none) Q) : TS X k env ss ρ σ Q := .mk fun A W s aa R F => by
  obtain ⟨W', l, R'⟩ := R.still T a
  exact wpAny_mono (h.run A W' s aa R' (F.go l fun _ _ => rfl)) (fun _ _ q => q.le l) fun _ _ e => e
/-- the end of an expression may leave cells behind -/
noncomputable abbrev kDrop (a : Addr) (Q : PV → Sto → Prop) (p : PV) (σ : Sto) : Prop := Q p (σ.set a none)
theorem TE.post_drop (T : X.Ok) {e : Expr} {Q : PV → Sto → Prop} (a : Addr) (h : TE X k env e ρ σ (kDrop a Q)) : TE X k env e ρ σ Q := .mk fun A W s aa R F => by
  refine wpAny_mono (h.run A W s aa R F) (fun v s1 h1 => ?_) fun _ _ e => e
  obtain ⟨W1, p, σ1, l1, R1, F1, r1, q⟩ := h1
  obtain ⟨W', l, R'⟩ := R1.still T a
  exact ⟨W', p, _, l1.trans l, R', F1.go l fun _ _ => rfl, r1.le l, q⟩
/-- reading a list that has grown: it stays from here on -/
theorem TE.locF (T : X.Ok) {x : Str} {pos : Pos} {a : Addr} {xs : List PV} {Q : PV → Sto → Prop} (hk : env.kindOf x = some .local ∨ env.kindOf x = some .cell) (hp : ρ x = some (.ptr a)) (hs : σ a = some (.list xs)) (hd : (x == ("__debug__" : Str)) = false)
    (h : Q (.lst xs) (σ.set a none)) : TE X k env (.Name x pos) ρ σ Q := by
  have : seen (.ptr a) σ Q := by simp only [seen, hs]; exact h
  rcases hk with hk | hk
  · exact TE.loc T hk hp hd this
  · exact TE.cell T hk hp hd this

/-! slices -/
noncomputable def TP (X : Txt) (k : Nat) (env : Env) : Option Expr → Loc → Sto → (PV → Sto → Prop) → Prop
  | none, _, σ, Q => Q .none σ
  | some e, ρ, σ, Q => TE X k env e ρ σ Q
theorem TP.ok {o : Option Expr} {Q : PV → Sto → Prop} {A : Around} {W : Map} {s : Shared} (h : TP X k env o ρ σ Q) (a : AOk k A) (R : HRel X W σ s) (F : FOk W env ρ s.heap) : wpAny X.M A (evalPart o env) (VPost X W env ρ Q) (fun _ _ => False) s := by
  cases o with
  | none => exact wpAny_pure (VPost.here (p := .none) R F rfl h)
  | some e => exact h.run A W s a R F
noncomputable abbrev kSlc2 (X : Txt) (k : Nat) (env : Env) (st : Option Expr) (ρ : Loc) (Q : PV → Sto → Prop) (a b : PV) (σ : Sto) : Prop := TP X k env st ρ σ fun c σ3 => Q (.slc a b c) σ3
noncomputable abbrev kSlc (X : Txt) (k : Nat) (env : Env) (u st : Option Expr) (ρ : Loc) (Q : PV → Sto → Prop) (a : PV) (σ : Sto) : Prop := TP X k env u ρ σ (kSlc2 X k env st ρ Q a)
theorem TE.slice (T : X.Ok) {l u st : Option Expr} {pos : Pos} {Q : PV → Sto → Prop} (h : TP X k env l ρ σ (kSlc X k env u st ρ Q)) : TE X k env (.Slice l u st pos) ρ σ Q := .mk fun A W s a R F => by
  refine wpAny_Slice (wpAny_mono (TP.ok h a R F) (fun va s1 h1 => ?_) fun _ _ e => e)
  obtain ⟨W1, pa, σ1, l1, R1, F1, r1, h1⟩ := h1
  refine wpAny_mono (TP.ok h1 a R1 F1) (fun vb s2 h2 => ?_) fun _ _ e => e
  obtain ⟨W2, pb, σ2, l2, R2, F2, r2, h2⟩ := h2
  refine wpAny_mono (TP.ok h2 a R2 F2) (fun vc s3 h3 => ?_) fun _ _ e => e
  obtain ⟨W3, pc, σ3, l3, R3, F3, r3, h3⟩ := h3
  have l4 := R3.le_set (.fro { cls := .type "slice", data := .fields #[va, vb, vc] })
  refine ⟨_, .slc pa pb pc, σ3, ((l1.trans l2).trans l3).trans l4, R3.pushFro T rfl s3.toks, FOk.push T R3 F3 _ _, ⟨_, va, vb, vc, rfl, Map.set_self .., ((r1.le l2).le l3).le l4, (r2.le l3).le l4, r3.le l4⟩, h3⟩

inductive Part : PV → Option Int → Prop
  | none : Part .none none
  | int (i : Int) : Part (.int i) (some i)
theorem Part.is {W : Map} {p : PV} {v : Value} {o : Option Int} (h : Part p o) (r : VRel W p v) : IsPart v o := by
  cases h with
  | none => cases r; exact .none
  | int i => obtain ⟨t, rfl⟩ := r; exact .int i t
noncomputable def pickP (xs : List PV) (lo hi st : Option Int) : List PV :=
  (sliceRange (sliceBounds lo hi st xs.length).1 (sliceBounds lo hi st xs.length).2.1 (sliceBounds lo hi st xs.length).2.2).filterMap (xs[·]?)
theorem VRels.places {W : Map} {xs : List PV} {vs : List Value} (h : VRels W xs vs) : ∀ js : List Nat, VRels W (js.filterMap (xs[·]?)) (js.filterMap (vs[·]?))
  | [] => rfl
  | j :: js => by
    have ih := VRels.places h js
    cases hn : xs[j]? with
    | some p =>
      obtain ⟨v, hv, r⟩ := h.get j p hn
      simp only [List.filterMap_cons, hn, hv]
      exact ⟨v, _, rfl, r, ih⟩
    | none =>
      have hv : vs[j]? = none := by
        rw [List.getElem?_eq_none_iff] at hn ⊢
        rw [h.length]; exact hn
      simp only [List.filterMap_cons, hn, hv]
      exact ih
theorem pick_rel {W : Map} {xs : List PV} {vs : List Value} (h : VRels W xs vs) (lo hi st : Option Int) : VRels W (pickP xs lo hi st) (slicePick vs.toArray lo hi st).toList := by
  have e : (slicePick vs.toArray lo hi st).toList = (sliceRange (sliceBounds lo hi st xs.length).1 (sliceBounds lo hi st xs.length).2.1 (sliceBounds lo hi st xs.length).2.2).filterMap (vs[·]?) := by
    simp [slicePick, h.length]
  rw [e]; exact h.places _
theorem list_lookup : typeLookup (.type "list") "__getitem__" = pure (some (.builtin "list.__getitem__")) := slot_list_getitem.lookup
theorem TOp.sliceL (T : X.Ok) {v sl : Expr} {xs : List PV} {a b c : PV} {lo hi st : Option Int} {Q : PV → Sto → Prop} (ha : Part a lo) (hb : Part b hi) (hc : Part c st) (h0 : st ≠ some 0) (h : Q (.lst (pickP xs lo hi st)) σ) :
    TOp X k (op2 (subscriptTail v sl)) [.lst xs, .slc a b c] σ Q := .mk fun A W s vs aa R rs => by
  obtain ⟨v1, _, rfl, r1, v2, _, rfl, ⟨r, va, vb, vc, rfl, hr, ra, rb, rc⟩, rfl⟩ := rs
  obtain ⟨l, us, rfl, hl, z, q⟩ := VRel.isList R r1
  refine tail_ok hl.typeIs list_lookup (wpAny_getItem_list_slice hl ⟨_, R.fro hr, rfl, rfl⟩ (ha.is ra) (hb.is rb) (hc.is rc) h0 ?_ (by rw [List.size_toArray]; exact z))
  have e : ({ cls := .type "list", data := .seq (slicePick us.toArray lo hi st) } : Obj) = lstObj (slicePick us.toArray lo hi st).toList 0 := by simp [lstObj]
  rw [e]
  have l2 := R.le_set (.fro (lstObj (slicePick us.toArray lo hi st).toList 0))
  refine ⟨_, .lst (pickP xs lo hi st), σ, l2, R.pushFro T rfl s.toks, ⟨_, _, 0, rfl, Map.set_self .., ?_, (pick_rel q lo hi st).le l2⟩, h⟩
  have := slicePick_size_le us.toArray lo hi st
  simp only [List.size_toArray] at this
  simp only [Array.length_toList]; lia
theorem Part.val {W : Map} {p : PV} {v : Value} {o : Option Int} (h : Part p o) (r : VRel W p v) : ∃ q : Option (Int × Tok), v = partValue q ∧ q.map (·.1) = o := by
  cases h with
  | none => cases r; exact ⟨Option.none, rfl, rfl⟩
  | int i => obtain ⟨t, rfl⟩ := r; exact ⟨Option.some (i, t), rfl, rfl⟩
theorem str_lookup : typeLookup (.type "str") "__getitem__" = pure (some (.builtin "str.__getitem__")) := F.slot_str_getitem.lookup
theorem slice_size (x : Str) (lo hi : Option Int) : (Txt.slice x lo hi).length ≤ x.length := PyProof.Txt.length_slice_le ..
theorem TOp.sliceS (T : X.Ok) {v sl : Expr} {x : Str} {a b : PV} {lo hi : Option Int} {Q : PV → Sto → Prop} (ha : Part a lo) (hb : Part b hi) (h : Q (.str (Txt.slice x lo hi)) σ) :
    TOp X k (op2 (subscriptTail v sl)) [.str x, .slc a b .none] σ Q := .mk fun A W s vs aa R rs => by
  obtain ⟨v1, _, rfl, ⟨z, t, rfl⟩, v2, _, rfl, ⟨r, va, vb, vc, rfl, hr, ra, rb, rc⟩, rfl⟩ := rs
  obtain ⟨qa, rfl, ea⟩ := ha.val ra
  obtain ⟨qb, rfl, eb⟩ := hb.val rb
  cases rc
  refine tail_ok (typeIs_str s x t) str_lookup (wpAny_getItem_str_slice (l := qa) (u := qb) (st := none) ⟨_, R.fro hr, rfl, rfl⟩ rfl ?_)
  have fin : ∀ (y : Str) t' k, y = Txt.slice x lo hi → HPost X W Q (.str y t') { s with toks := k } := fun y t' k e => ⟨W, .str y, σ, Le.refl W, R.toks k, ⟨by rw [e]; exact Nat.le_trans (slice_size ..) z, t', rfl⟩, by rw [e]; exact h⟩
  unfold sliceMade
  unfold slicePicked
  rw [ea, eb]
  simp only [Option.map_none, Option.getD_none]
  by_cases hc : ((1 : Int) == 1 && (Builtin.Str.strSliceIndices lo hi 1 x.length).length == x.length) = true
  · rw [if_pos hc]; exact fin _ _ s.toks (by unfold Txt.slice; rw [if_pos hc])
  · rw [if_neg hc]
    have e : (⟨((Builtin.Str.strSliceIndices lo hi 1 x.length).filterMap (x.cps[·]?)).toArray⟩ : Str) = Txt.slice x lo hi := by unfold Txt.slice; rw [if_neg hc]
    exact ⟨by rw [e]; exact Nat.le_trans (slice_size ..) z, fin _ _ _ e⟩
end
end Mine

end
section
open PySem PySem.W PyProof.Rows
set_option Elab.async false
set_option linter.unusedVariables false
namespace Mine
variable {X : Txt}

section
variable {k : Nat} {env : Env} {ρ : Loc} {σ : Sto}

/-- the kind of a value -/
noncomputable def HasT (X : Txt) (p : PV) (σ : Sto) (N : String) : Prop := ∀ (W : Map) (s : Shared) (v : Value), HRel X W σ s → VRel W p v → s.TypeIs v N ∧ ∀ a, v = .ref a → ∃ ob, s.heap.get? a = some ob ∧ ob.dict = none
theorem HasT.str {x : Str} : HasT X (.str x) σ "str" := fun W s v R r => by obtain ⟨_, t, rfl⟩ := r; exact ⟨typeIs_str _ _ _, fun _ e => nomatch e⟩
theorem HasT.lst {xs : List PV} : HasT X (.lst xs) σ "list" := fun W s v R r => by
  obtain ⟨a, vs, n, rfl, hW, _, _⟩ := r
  exact ⟨⟨_, R.fro hW, rfl⟩, fun b e => by cases e; exact ⟨_, R.fro hW, rfl⟩⟩
theorem HasT.ptr {a : Addr} {xs : List PV} (h : σ a = some (.list xs)) : HasT X (.ptr a) σ "list" := fun W s v R r => by
  cases r
  obtain ⟨us, n, ho, z, q⟩ := R.at' ((R.cel a _).mp h)
  exact ⟨⟨_, ho, rfl⟩, fun b e => by cases e; exact ⟨_, ho, rfl⟩⟩

theorem fewArgs {args : List Expr} {pos : Pos} (hn : noStar args = true) (hl : args.length < 20) : ((backTo pos (starEach args env)).all (fun x => !x.1) && (backToKw pos (keywordEach [] env)).all (fun x => x.1.isSome)
      && decide (args.length + ([] : List Keyword).length + (if ([] : List Keyword).isEmpty then 0 else 1) < 30)) = true := by
  have h1 : (backTo pos (starEach args env)).all (fun x => !x.1) = true := by
    have := starEach_plain (env := env) (pos := pos) hn
    rw [← Bool.not_eq_true, List.any_eq_true] at this
    rw [List.all_eq_true]
    intro x hx
    cases hb : x.1
    · rfl
    · exact absurd ⟨x, hx, hb⟩ this
  rw [h1]
  simp only [List.length_nil, List.isEmpty_nil, if_true, Nat.add_zero, Bool.true_and, Bool.and_eq_true, decide_eq_true_eq]
  exact ⟨by rfl, by lia⟩

/-- a method of a builtin kind -/
noncomputable abbrev kMeth2 (X : Txt) (k : Nat) (fv : Value) (Q : PV → Sto → Prop) (p : PV) (ps : List PV) (σ : Sto) : Prop := TOp X k (fun vs => PySem.call fv vs) (p :: ps) σ Q
noncomputable abbrev kMeth (X : Txt) (k : Nat) (env : Env) (N id : String) (args : List Expr) (ρ : Loc) (Q : PV → Sto → Prop) (p : PV) (σ : Sto) : Prop := HasT X p σ N ∧ TEs X k env args ρ σ (kMeth2 X k (.builtin id) Q p)
theorem TE.meth (T : X.Ok) {o : Expr} {name : Str} {apos pos : Pos} {args : List Expr} {N id : String} {Q : PV → Sto → Prop}
    (pa : PlainAttrs N) (slot : PySem.Slot N name id) (ty : typeOf (.builtin id) = pure (.type "method_descriptor"))
    (hbase : attributeBase o name env (eval o env) = eval o env) (hn : noStar args = true) (hl : args.length < 20) (hline : (apos.endLine == pos.line) = true)
    (h : TE X k env o ρ σ (kMeth X k env N id args ρ Q)) :
    TE X k env (.Call (.Attribute o name apos) args [] pos) ρ σ Q := .mk fun A W s a R F => by
  refine wpAny_Call_method_lateS hbase (fewArgs hn hl) hline (wpAny_mono (h.run A W s a R F) (fun v s1 h1 => ?_) fun _ _ e => e)
  obtain ⟨W1, p, σ1, l1, R1, F1, r1, ht, h1⟩ := h1
  obtain ⟨t1, t2⟩ := ht W1 s1 v R1 r1
  refine ⟨N, id, pa, slot, ty, t1, t2, ?_⟩
  refine callWith_ok T (first := [v]) rfl hn h1 a R1 F1 fun vs s2 h2 => ?_
  obtain ⟨W2, ps, σ2, l2, R2, F2, r2, h2⟩ := h2
  exact wpAny_mono (lift T h2 a R2 F2 (vs := v :: vs) ⟨v, _, rfl, r1.le l2, r2⟩) (fun _ _ q => (q.le l2).le l1) fun _ _ e => e

/-! growing lists -/
theorem HRel.cellSet (T : X.Ok) {W : Map} {s : Shared} {a : Addr} {c c' : Cell} {h' : Heap} (R : HRel X W σ s) (hW : W a = .cel c) (hs : Heap.SameBut a s.heap h') (hc : CellAt X (W.set a (.cel c')) h' a c') (t : Nat) :
    HRel X (W.set a (.cel c')) (σ.set a (some c')) { s with heap := h', toks := t } ∧ Le W (W.set a (.cel c')) := by
  refine ⟨R.same T (x := .cel c') hs (by intro o e; rw [hW] at e; cases e) (by rw [hW]; intro e; cases e) (by intro e; cases e) hc t, ?_⟩
  exact Le.setCel hW (by intro h; cases h)
theorem FOk.cellSet {W : Map} {s : Shared} {a : Addr} {c : Cell} {x : Slot} {h' : Heap} (F : FOk W env ρ s.heap) (hW : W a = .cel c) (l : Le W (W.set a x)) (hs : Heap.SameBut a s.heap h') : FOk (W.set a x) env ρ h' := by
  refine F.go l fun b hb => hs.2 b ?_
  rintro rfl
  rcases hb with e | ⟨o, e⟩ <;> rw [hW] at e <;> cases e
theorem TOp.append (T : X.Ok) {a : Addr} {p : PV} {xs : List PV} {Q : PV → Sto → Prop} (hs : σ a = some (.list xs)) (hl : xs.length + 1 ≤ sizeLine) (h : Q .none (σ.set a (some (.list (xs ++ [p]))))) :
    TOp X k (fun vs => PySem.call (.builtin "list.append") vs) [.ptr a, p] σ Q := .mk fun A W s vs aa R rs => by
  obtain ⟨v1, _, rfl, rfl, v2, _, rfl, r2, rfl⟩ := rs
  have hW := (R.cel a _).mp hs
  obtain ⟨us, n, ho, z, q⟩ := R.at' hW
  refine wpAny_list_append_plain (items := us.toArray) ⟨n, ho⟩ (fun h' hp hs' => ?_) (by rw [List.size_toArray]; exact z)
  obtain ⟨n', ho'⟩ := hp
  have e : us.toArray.push v2 = (us ++ [v2]).toArray := by simp
  rw [e] at ho'
  have lf : ∀ b o, W b = .fro o → W.set a (.cel (.list (xs ++ [p]))) b = .fro o := fun b o e => by rw [Map.set_ne (by first | exact nq e (hW) rfl | exact Ne.symm (nq e (hW) rfl) | (rintro rfl; rw [hW] at e; cases e))]; exact e
  have hq := q.length
  obtain ⟨R', l'⟩ := R.cellSet T hW hs' (c' := .list (xs ++ [p])) ⟨_, n', ho', by simp; lia, VRels.append (VRels.mono lf _ _ q) ⟨v2, [], rfl, VRel.mono lf _ _ r2, rfl⟩⟩ s.toks
  exact ⟨_, .none, _, l', R', rfl, h⟩
inductive kApp (a : Addr) (ρ : Loc) (Q : Ctl → Loc → Sto → Prop) (p : PV) (σ : Sto) : Prop
  | mk (xs : List PV) (h1 : σ a = some (.list xs)) (h2 : xs.length + 1 ≤ sizeLine) (h : Q .next ρ (σ.set a (some (.list (xs ++ [p])))))
theorem T1.append (T : X.Ok) {x : Str} {xp apos pos pos' : Pos} {e : Expr} {a : Addr} {Q : Ctl → Loc → Sto → Prop} (hk : env.kindOf x = some .local ∨ env.kindOf x = some .cell) (hp : ρ x = some (.ptr a)) (hd : (x == ("__debug__" : Str)) = false)
    (hbase : attributeBase (.Name x xp) (Str.ofString "append") env (eval (.Name x xp) env) = eval (.Name x xp) env) (hn : noStar [e] = true) (hline : (apos.endLine == pos.line) = true) {xs₀ : List PV} (h0 : σ a = some (.list xs₀))
    (h : TE X k env e ρ σ (kApp a ρ Q)) :
    T1 X k env (.Expr (.Call (.Attribute (.Name x xp) (Str.ofString "append") apos) [e] [] pos) pos') ρ σ Q := by
  refine T1.expr T rfl (TE.meth T F.plainAttrs_list F.slot_list_append F.type_list_append hbase hn (by simp) hline (TE.raw hk hp hd ⟨HasT.ptr h0, ?_⟩))
  exact h.mono fun p σ1 ⟨xs, h1, h2, h3⟩ => TOp.append T h1 h2 h3
theorem VRels.set {W : Map} {p : PV} {v : Value} (r : VRel W p v) : ∀ {xs : List PV} {vs : List Value} (i : Nat), VRels W xs vs → VRels W (xs.set i p) (vs.set i v)
  | [], _, i, h => by cases h; simp [VRels]
  | x :: xs, _, 0, ⟨u, us, e, a, b⟩ => by subst e; exact ⟨v, us, rfl, r, b⟩
  | x :: xs, _, i + 1, ⟨u, us, e, a, b⟩ => by subst e; exact ⟨u, _, rfl, a, VRels.set r i b⟩
theorem mapSeq_set (us : List Value) (n k : Nat) (v : Value) : ∃ n', Obj.mapSeq (·.setIfInBounds k v) (lstObj us n) = lstObj (us.set k v) n' := by
  refine ⟨n, ?_⟩
  simp [Obj.mapSeq, lstObj]
/-- an item of a growing list is set -/
theorem TAsg.item (T : X.Ok) {x : Str} {xp pos : Pos} {i : Expr} {a : Addr} {p : PV} {Q : Loc → Sto → Prop} (hk : env.kindOf x = some .local ∨ env.kindOf x = some .cell) (hp : ρ x = some (.ptr a)) (hd : (x == ("__debug__" : Str)) = false)
    (h : TE X k env i ρ σ fun j σ1 => ∃ xs n, j = .int n ∧ σ1 a = some (.list xs) ∧ 0 ≤ n ∧ n < xs.length ∧ Q ρ (σ1.set a (some (.list (xs.set n.toNat p))))) :
    TAsg X k env (.Subscript (.Name x xp) i pos) p ρ σ Q := .mk fun A W s v aa R F r => by
  rw [arm_assign_Subscript]
  refine wpAny_bind (wpAny_holding (wpAny_mono ((TE.raw (Q := fun q σ' => q = .ptr a ∧ σ' = σ) hk hp hd ⟨rfl, rfl⟩).run A W s aa R F) (fun v1 s1 h1 => ?_) fun _ _ e => e))
  obtain ⟨W1, p1, σ1, l1, R1, F1, r1, rfl, rfl⟩ := h1
  cases r1
  refine wpAny_bind (wpAny_holding (wpAny_mono (h.run A W1 s1 aa R1 F1) (fun v2 s2 h2 => ?_) fun _ _ e => e))
  obtain ⟨W2, p2, σ2, l2, R2, F2, r2, xs, n, rfl, hs, h0, hn, hq⟩ := h2
  obtain ⟨t, rfl⟩ := r2
  have hW := (R2.cel a _).mp hs
  obtain ⟨us, m, ho, z, q⟩ := R2.at' hW
  have hlen := q.length
  have hz := sizeLine_lt
  refine wpAny_bind (wpAny_standAt (wpAny_bind (wpAny_holding (ki_setAt (items := us.toArray) ho h0 (by lia) (by rw [List.size_toArray]; lia) ?_))))
  have rv := (r.le l1).le l2
  obtain ⟨m', e⟩ := mapSeq_set us m n.toNat v
  have lf : ∀ b o, W2 b = .fro o → W2.set a (.cel (.list (xs.set n.toNat p))) b = .fro o := fun b o e => by rw [Map.set_ne (by first | exact nq e (hW) rfl | exact Ne.symm (nq e (hW) rfl) | (rintro rfl; rw [hW] at e; cases e))]; exact e
  have hs' := Heap.SameBut.update s2.heap a (Obj.mapSeq (·.setIfInBounds n.toNat v))
  obtain ⟨R', l'⟩ := R2.cellSet T hW hs' (c' := .list (xs.set n.toNat p)) ⟨us.set n.toNat v, m', by rw [Heap.get?_update_self _ ho (by rw [e]; rfl), e], by simpa using z, VRels.set (VRel.mono lf _ _ rv) _ (VRels.mono lf _ _ q)⟩ s2.toks
  have F' : FOk (W2.set a (.cel (.list (xs.set n.toNat p)))) env ρ _ := FOk.cellSet F2 hW l' hs'
  exact wpAny_release ⟨_, ρ, _, (l1.trans l2).trans l', R', F', hq⟩
end
end Mine

end
section
open PySem PySem.W PyProof.Rows
set_option Elab.async false
set_option linter.unusedVariables false
namespace Mine
variable {X : Txt}

section
variable {k : Nat} {env : Env} {ρ : Loc} {σ : Sto} {Q : PV → Sto → Prop}

/-- a call of one value -/
theorem TOp.of1 {f : List Value → Sem Value} {p : PV} (hf : ∀ A W s v, AOk k A → HRel X W σ s → VRel W p v → wpAny X.M A (f [v]) (HPost X W Q) (fun _ _ => False) s) : TOp X k f [p] σ Q := .mk fun A W s vs a R rs => by
  obtain ⟨v, _, rfl, r, rfl⟩ := rs
  exact hf A W s v a R r
theorem TOp.of2 {f : List Value → Sem Value} {p q : PV} (hf : ∀ A W s v u, AOk k A → HRel X W σ s → VRel W p v → VRel W q u → wpAny X.M A (f [v, u]) (HPost X W Q) (fun _ _ => False) s) : TOp X k f [p, q] σ Q := .mk fun A W s vs a R rs => by
  obtain ⟨v, _, rfl, r, u, _, rfl, r2, rfl⟩ := rs
  exact hf A W s v u a R r r2
theorem HPost.tk {W : Map} {s : Shared} {p : PV} {v : Value} (R : HRel X W σ s) (r : VRel W p v) (q : Q p σ) (t : Nat) : HPost X W Q v { s with toks := t } := ⟨W, p, σ, Le.refl W, R.toks t, r, q⟩
/-- a new frozen list -/
theorem HPost.newLst (T : X.Ok) {W : Map} {s : Shared} {xs : List PV} {vs : List Value} (R : HRel X W σ s) (r : VRels W xs vs) (hl : vs.length ≤ sizeLine) (q : Q (.lst xs) σ) (t : Nat) :
    HPost X W Q (.ref s.heap.objs.size) { s with heap := s.heap.push { cls := .type "list", data := .seq vs.toArray }, toks := t } := by
  have l := R.le_set (.fro (lstObj vs 0))
  exact ⟨_, .lst xs, σ, l, R.pushFro T rfl t, ⟨_, vs, 0, rfl, Map.set_self .., hl, r.le l⟩, q⟩

/-! len -/
theorem TOp.lenS {x : Str} (h : Q (.int x.length) σ) : TOp X k (fun vs => PySem.call (.builtin "len") vs) [.str x] σ Q := .of1 fun A W s v a R ⟨z, t, e⟩ => by
  subst e
  exact PySem.P.len_str (by have := sizeLine_lt; lia) (HPost.tk R (p := .int x.length) ⟨_, rfl⟩ h _)
theorem TOp.lenL {xs : List PV} (h : Q (.int xs.length) σ) : TOp X k (fun vs => PySem.call (.builtin "len") vs) [.lst xs] σ Q := .of1 fun A W s v a R r => by
  obtain ⟨l, us, rfl, hl, z, q⟩ := VRel.isList R r
  refine PyProof.Rows.len_list hl (by have := sizeLine_lt; rw [List.size_toArray]; lia) ?_
  rw [List.size_toArray, q.length]
  exact HPost.tk R (p := .int xs.length) ⟨_, rfl⟩ h _
/-! ints -/
noncomputable def pis (cs : List Int) : List PV := cs.map .int
theorem pis_get {cs : List Int} {i : Nat} (h : i < cs.length) : (pis cs)[i]? = some (.int (cs.getD i 0)) := by
  simp [pis, List.getElem?_map, List.getElem?_eq_getElem h, List.getD]
theorem pis_rel {W : Map} : ∀ {cs : List Int} {vs : List Value}, VRels W (pis cs) vs → IntsAre vs cs
  | [], _, h => by cases h; exact .nil
  | c :: cs, _, ⟨v, vs, e, ⟨t, hv⟩, r⟩ => by subst e; subst hv; exact .cons c t (pis_rel r)
theorem TOp.sum (T : X.Ok) {cs : List Int} (h : Q (.int cs.sum) σ) : TOp X k (fun vs => PySem.call (.builtin "sum") vs) [.lst (pis cs)] σ Q := .of1 fun A W s v a R r => by
  obtain ⟨l, us, rfl, hl, z, q⟩ := VRel.isList R r
  have hi := pis_rel q
  obtain ⟨xs, e⟩ := hi.allInts.items
  rw [e] at hl
  have hn : preSum (numAt xs) xs.size = cs.sum := by
    have h1 := nums_intItems xs
    have h2 := hi.numsOf
    rw [preSum_eq, List.take_of_length_le (by simp), ← h1, ← e]
    show (numsOf us.toArray.toList).sum = _
    rw [show us.toArray.toList = us from rfl, h2]
  refine sum_intListG a.handled hl fun h' tk t' hk => ?_
  rw [hn]
  exact ⟨W, .int cs.sum, σ, Le.refl W, R.ext T hk tk, ⟨_, rfl⟩, h⟩
theorem TOp.max2 (T : X.Ok) {a b : Int} (h : Q (.int (max a b)) σ) : TOp X k (fun vs => PySem.call (.builtin "max") vs) [.int a, .int b] σ Q := .of2 fun A W s v u aa R ⟨t, e⟩ ⟨t2, e2⟩ => by
  subst e; subst e2
  refine max_two_ints aa.handled fun h' tk hk => ?_
  refine ⟨W, .int (max a b), σ, Le.refl W, R.ext T hk tk, ?_, h⟩
  by_cases hc : b > a
  · rw [if_pos hc, Int.max_eq_right (Int.le_of_lt hc)]; exact ⟨_, rfl⟩
  · rw [if_neg hc, Int.max_eq_left (by lia)]; exact ⟨_, rfl⟩
/-! texts -/
theorem TOp.count {x y : Str} (h : Q (.int (Txt.count x y)) σ) : TOp X k (fun vs => PySem.call (.builtin "str.count") vs) [.str x, .str y] σ Q := .of2 fun A W s v u a R ⟨z, t, e⟩ ⟨z2, t2, e2⟩ => by
  subst e; subst e2
  exact call_gives F.slot_str_count (typeIs_str _ _ _) F.entry_str_count (F.args_str_count_2 _ _) (gives_str_count x y t t2) (HPost.tk R (p := .int (Txt.count x y)) ⟨_, rfl⟩ h _)
theorem TOp.rfind {x y : Str} (h : Q (.int (Txt.rfind x y)) σ) : TOp X k (fun vs => PySem.call (.builtin "str.rfind") vs) [.str x, .str y] σ Q := .of2 fun A W s v u a R ⟨z, t, e⟩ ⟨z2, t2, e2⟩ => by
  subst e; subst e2
  exact call_gives F.slot_str_rfind (typeIs_str _ _ _) F.entry_str_rfind (F.args_str_rfind_2 _ _) (gives_str_rfind x y t t2) (HPost.tk R (p := .int (Txt.rfind x y)) ⟨_, rfl⟩ h _)
theorem TOp.startswith {x y : Str} (h : Q (.bool (Txt.startswith x y)) σ) : TOp X k (fun vs => PySem.call (.builtin "str.startswith") vs) [.str x, .str y] σ Q := .of2 fun A W s v u a R ⟨z, t, e⟩ ⟨z2, t2, e2⟩ => by
  subst e; subst e2
  exact call_gives F.slot_str_startswith (typeIs_str _ _ _) F.entry_str_startswith (F.args_str_startswith_2 _ _) (gives_str_startswith x y t t2) (HPost.tk R (p := .bool (Txt.startswith x y)) rfl h s.toks)
theorem TOp.endswith {x y : Str} (h : Q (.bool (Txt.endswith x y)) σ) : TOp X k (fun vs => PySem.call (.builtin "str.endswith") vs) [.str x, .str y] σ Q := .of2 fun A W s v u a R ⟨z, t, e⟩ ⟨z2, t2, e2⟩ => by
  subst e; subst e2
  exact call_gives F.slot_str_endswith (typeIs_str _ _ _) F.entry_str_endswith (F.args_str_endswith_2 _ _) (gives_str_endswith x y t t2) (HPost.tk R (p := .bool (Txt.endswith x y)) rfl h s.toks)
theorem TOp.rstrip {x y : Str} (h : Q (.str (Txt.rstripChars x y)) σ) : TOp X k (fun vs => PySem.call (.builtin "str.rstrip") vs) [.str x, .str y] σ Q := .of2 fun A W s v u a R ⟨z, t, e⟩ ⟨z2, t2, e2⟩ => by
  subst e; subst e2
  refine call_gives F.slot_str_rstrip (typeIs_str _ _ _) F.entry_str_rstrip (F.args_str_rstrip_2 _ _) (gives_str_rstrip_chars x y t t2) (post_val_or_made (fun _ => fits_stripped _ _ _ z) fun t' k' => ?_)
  exact HPost.tk R (p := .str (Txt.rstripChars x y)) ⟨Nat.le_trans (len_stripBy ..) z, _, rfl⟩ h _
theorem TOp.mulS {x : Str} {n : Int} (hx : x.length ≤ 1000) (hn : n ≤ 1000) (hlo : -(2 ^ 63 : Int) ≤ n) (h : Q (.str (Txt.mul x n)) σ) (hz : (Txt.mul x n).length ≤ sizeLine) : TOp X k (op2 (binaryOp .Mult)) [.str x, .int n] σ Q := .of2 fun A W s v u a R ⟨z, t, e⟩ ⟨t2, e2⟩ => by
  subst e; subst e2
  exact SB.mul (mulOk_of 1000 1000 hx hn hlo (by decide) (by decide)) fun t' k' => HPost.tk R (p := .str (Txt.mul x n)) ⟨hz, _, rfl⟩ h _
theorem TOp.itemS {v sl : Expr} {x : Str} {i : Int} {c : Nat} (h1 : -(2 ^ 63 : Int) ≤ i) (h2 : i < 2 ^ 63) (hc : Txt.charAt x i = some c) (h : Q (.str ⟨#[c]⟩) σ) : TOp X k (op2 (subscriptTail v sl)) [.str x, .int i] σ Q := .of2 fun A W s v u a R ⟨z, t, e⟩ ⟨t2, e2⟩ => by
  subst e; subst e2
  refine tail_ok (typeIs_str _ _ _) str_lookup (PySem.P.getItem_str (c := c) ?_ hc (HPost.tk R (p := .str ⟨#[c]⟩) ⟨by show 1 ≤ sizeLine; decide, _, rfl⟩ h _))
  simp only [Bool.or_eq_false_iff, decide_eq_false_iff_not]
  lia
noncomputable def pss (xs : List Str) : List PV := xs.map .str
theorem pss_rel {W : Map} : ∀ {xs : List Str} {vs : List Value}, VRels W (pss xs) vs → ∃ l : List (Str × Tok), vs = strValues l ∧ l.map (·.1) = xs
  | [], _, h => by cases h; exact ⟨[], rfl, rfl⟩
  | x :: xs, _, ⟨v, vs, e, ⟨z, t, hv⟩, r⟩ => by
    subst e; subst hv
    obtain ⟨l, e1, e2⟩ := pss_rel r
    exact ⟨(x, t) :: l, by rw [e1]; rfl, by simp [e2]⟩
theorem joinMade_post {sep : Str} {l : List (Str × Tok)} {s : Shared} {Q' : Value → Shared → Prop} (hz : (Str.join sep (l.map (·.1))).length ≤ sizeLine) (h : ∀ t k, Q' (.str (Str.join sep (l.map (·.1))) t) { s with toks := k }) : (joinMade sep l).post Q' s := by
  have gen : ∀ l : List (Str × Tok), (Str.join sep (l.map (·.1))).length ≤ sizeLine → (∀ t k, Q' (.str (Str.join sep (l.map (·.1))) t) { s with toks := k }) → (Made.str (Builtin.Str.glued sep (l.map (·.1)))).post Q' s := fun l hz h => by
    have e : Builtin.Str.glued sep (l.map (·.1)) = Str.join sep (l.map (·.1)) := StrLaws.glued_eq_join sep _
    rw [e]
    exact ⟨hz, h _ _⟩
  cases l with
  | nil => exact gen [] hz h
  | cons p r => cases r with
    | nil => exact h p.2 s.toks
    | cons q r' => exact gen (p :: q :: r') hz h
theorem TOp.joinL {sep : Str} {xs : List Str} (hl : Builtin.Str.tooLong (xs.toArray.foldl (· + ·.length + sep.length) 0) = false) (hz : (Str.join sep xs).length ≤ sizeLine) (h : Q (.str (Str.join sep xs)) σ) :
    TOp X k (fun vs => PySem.call (.builtin "str.join") vs) [.str sep, .lst (pss xs)] σ Q := .of2 fun A W s v u a R ⟨z, t, e⟩ r2 => by
  subst e
  obtain ⟨l, us, rfl, hL, z2, q⟩ := VRel.isList R r2
  obtain ⟨l', rfl, rfl⟩ := pss_rel q
  exact call_meets F.slot_str_join (typeIs_str _ _ _) F.entry_str_join (F.args_str_join_2 _ _) (meets_str_join_list sep t l l' hl) ⟨hL, joinMade_post hz fun t' k' => HPost.tk R (p := .str _) ⟨hz, _, rfl⟩ h _⟩
theorem strsFrom_rel {W : Map} : ∀ (xs : List Str) (tk : Nat), (∀ x ∈ xs, x.length ≤ sizeLine) → VRels W (pss xs) (strsFrom tk xs)
  | [], _, _ => rfl
  | x :: xs, tk, h => ⟨_, _, rfl, ⟨h x List.mem_cons_self, _, rfl⟩, strsFrom_rel xs _ fun y hy => h y (List.mem_cons_of_mem _ hy)⟩
theorem TOp.split (T : X.Ok) {x y : Str} (hy : (y.length == 0) = false) (h1 : (decide (x.length < y.length) || decide (Builtin.Str.strKind x < Builtin.Str.strKind y)) = false) (hf : (Builtin.Str.occurrences x y 0 x.length (x.length + 1)).isEmpty = false)
    (hn : (Txt.split x y).length ≤ sizeLine) (h : Q (.lst (pss (Txt.split x y))) σ) :
    TOp X k (fun vs => PySem.call (.builtin "str.split") vs) [.str x, .str y] σ Q := .of2 fun A W s v u a R ⟨z, t, e⟩ ⟨z2, t2, e2⟩ => by
  subst e; subst e2
  have es : Txt.split x y = Builtin.Str.partsBetween x (Builtin.Str.occurrences x y 0 x.length (x.length + 1)) y.length := by
    unfold Txt.split; rw [if_neg (by rw [h1]; exact Bool.false_ne_true), if_neg (by rw [hf]; exact Bool.false_ne_true)]
  rw [es] at hn h
  refine call_meets F.slot_str_split (typeIs_str _ _ _) F.entry_str_split (F.args_str_split_2 _ _) (meets_str_split_sep x y t t2 h1 hy hf z hn) ?_
  refine HPost.newLst T R (strsFrom_rel _ _ fun p hp => ?_) (by rw [strsFrom_length]; exact hn) h _
  simp only [Builtin.Str.partsBetween, List.mem_map] at hp
  obtain ⟨⟨i, j⟩, _, rfl⟩ := hp
  exact Nat.le_trans (strSub_length_le ..) z
theorem TOp.addL (T : X.Ok) {xs ys : List PV} (hz : xs.length + ys.length ≤ sizeLine) (h : Q (.lst (xs ++ ys)) σ) : TOp X k (op2 (binaryOp .Add)) [.lst xs, .lst ys] σ Q := .of2 fun A W s v u a R r1 r2 => by
  obtain ⟨l, vs, n, rfl, hW, z, q⟩ := r1
  obtain ⟨l2, us, n2, rfl, hW2, z2, q2⟩ := r2
  have e : vs.toArray ++ us.toArray = (vs ++ us).toArray := by simp
  have e1 := q.length
  have e2 := q2.length
  refine concat_meets ⟨_, R.fro hW, rfl⟩ ⟨_, R.fro hW2, rfl⟩ noFill_list_add seq_list_add PySem.F.slot_list_add PySem.F.entry_list_add (PySem.F.args_list_add_2 _ _) (list_addW l l2 vs.toArray us.toArray n n2 none none #[] #[] (by simp; lia)) ⟨R.fro hW, R.fro hW2, ?_⟩
  rw [e]
  exact HPost.newLst T R (VRels.append q q2) (by simp; lia) h s.toks
end
end Mine

end
section
open PySem PySem.W PyProof.Rows
set_option Elab.async false
set_option linter.unusedVariables false
namespace Mine
variable {X : Txt}

mutual
noncomputable def PV.dat : PV → PyData
  | .none => .none
  | .bool b => .bool b
  | .int i => .int i
  | .str s => .str s
  | .tup xs => .tuple (PV.dats xs)
  | .lst xs => .list (PV.dats xs)
  | .ptr _ => .none
  | .glob _ => .none
  | .slc _ _ _ => .none
noncomputable def PV.dats : List PV → List PyData
  | [] => []
  | x :: xs => PV.dat x :: PV.dats xs
end
mutual
/-- plain data, n deep at most -/
noncomputable def PV.flat : Nat → PV → Bool
  | _, .none => true
  | _, .bool _ => true
  | _, .int _ => true
  | _, .str s => PyData.strOk s
  | 0, .tup _ => false
  | 0, .lst _ => false
  | n + 1, .tup xs => PV.flats n xs
  | n + 1, .lst xs => PV.flats n xs
  | _, .ptr _ => false
  | _, .glob _ => false
  | _, .slc _ _ _ => false
noncomputable def PV.flats : Nat → List PV → Bool
  | _, [] => true
  | n, x :: xs => PV.flat n x && PV.flats n xs
end
mutual
theorem flat_reads {W : Map} {σ : Sto} {s : Shared} (R : HRel X W σ s) : ∀ (n : Nat) (p : PV) (v : Value), PV.flat n p = true → VRel W p v → ∃ as, Reads s.heap v p.dat as
  | _, .none, _, _, rfl => ⟨_, .none⟩
  | _, .bool b, _, _, rfl => ⟨_, .bool b⟩
  | _, .int i, _, _, ⟨t, rfl⟩ => ⟨_, .int i t⟩
  | _, .str x, _, _, ⟨_, t, rfl⟩ => ⟨_, .str x t⟩
  | 0, .tup _, _, h, _ => by simp [PV.flat] at h
  | 0, .lst _, _, h, _ => by simp [PV.flat] at h
  | n + 1, .tup xs, _, h, ⟨a, vs, m, rfl, hW, z, q⟩ => by
    simp only [PV.flat] at h
    obtain ⟨as, r⟩ := flats_reads R n xs vs h q
    simp only [PV.dat]
    exact ⟨_, .tuple (R.fro hW) rfl rfl r⟩
  | n + 1, .lst xs, _, h, ⟨a, vs, m, rfl, hW, z, q⟩ => by
    simp only [PV.flat] at h
    obtain ⟨as, r⟩ := flats_reads R n xs vs h q
    simp only [PV.dat]
    exact ⟨_, .list (R.fro hW) rfl rfl r⟩
  | _, .ptr _, _, h, _ => by simp [PV.flat] at h
  | _, .glob _, _, h, _ => by simp [PV.flat] at h
  | _, .slc _ _ _, _, h, _ => by simp [PV.flat] at h
theorem flats_reads {W : Map} {σ : Sto} {s : Shared} (R : HRel X W σ s) : ∀ (n : Nat) (xs : List PV) (vs : List Value), PV.flats n xs = true → VRels W xs vs → ∃ as, ReadsAll s.heap vs (PV.dats xs) as
  | _, [], _, _, rfl => ⟨_, .nil⟩
  | n, x :: xs, _, h, ⟨v, vs, rfl, r, rs⟩ => by
    simp only [PV.flats, Bool.and_eq_true] at h
    obtain ⟨as, h1⟩ := flat_reads R n x v h.1 r
    obtain ⟨bs, h2⟩ := flats_reads R n xs vs h.2 rs
    simp only [PV.dats]
    exact ⟨_, .cons h1 h2⟩
end
mutual
theorem flat_lay : ∀ (n : Nat) (p : PV), PV.flat n p = true → p.dat.canLay0 = true ∧ p.dat.depth ≤ n
  | _, .none, _ => by simp [PV.dat, PyData.canLay0, PyData.depth]
  | _, .bool b, _ => by simp [PV.dat, PyData.canLay0, PyData.depth]
  | _, .int i, _ => by simp [PV.dat, PyData.canLay0, PyData.depth]
  | _, .str x, h => by simp only [PV.flat] at h; simp only [PV.dat, PyData.canLay0, PyData.depth]; exact ⟨h, Nat.zero_le _⟩
  | 0, .tup _, h => by simp [PV.flat] at h
  | 0, .lst _, h => by simp [PV.flat] at h
  | n + 1, .tup xs, h => by
    simp only [PV.flat] at h
    obtain ⟨a, b⟩ := flats_lay n xs h
    simp only [PV.dat, PyData.canLay0, PyData.depth]; exact ⟨a, by lia⟩
  | n + 1, .lst xs, h => by
    simp only [PV.flat] at h
    obtain ⟨a, b⟩ := flats_lay n xs h
    simp only [PV.dat, PyData.canLay0, PyData.depth]; exact ⟨a, by lia⟩
  | _, .ptr _, h => by simp [PV.flat] at h
  | _, .glob _, h => by simp [PV.flat] at h
  | _, .slc _ _ _, h => by simp [PV.flat] at h
theorem flats_lay : ∀ (n : Nat) (xs : List PV), PV.flats n xs = true → PyData.canLayAll0 (PV.dats xs) = true ∧ PyData.depthAll (PV.dats xs) ≤ n
  | _, [], _ => by simp [PV.dats, PyData.canLayAll0, PyData.depthAll]
  | n, x :: xs, h => by
    simp only [PV.flats, Bool.and_eq_true] at h
    obtain ⟨a, b⟩ := flat_lay n x h.1
    obtain ⟨c, d⟩ := flats_lay n xs h.2
    simp only [PV.dats, PyData.canLayAll0, PyData.depthAll, Bool.and_eq_true]
    exact ⟨⟨a, c⟩, by lia⟩
end
/-- how plain data compare -/
noncomputable def PV.eqv (p q : PV) : Bool := PyData.eqv p.dat q.dat
noncomputable def PV.eqvs (p q : List PV) : Bool := PyData.eqvAll (PV.dats p) (PV.dats q)
theorem eqv_int (a b : Int) : PV.eqv (.int a) (.int b) = (a == b) := by simp [PV.eqv, PV.dat, PyData.eqv]
theorem eqv_str (a b : Str) : PV.eqv (.str a) (.str b) = (a == b) := by simp [PV.eqv, PV.dat, PyData.eqv]
theorem eqv_bool (a b : Bool) : PV.eqv (.bool a) (.bool b) = (a == b) := by simp [PV.eqv, PV.dat, PyData.eqv]
theorem eqv_lst (a b : List PV) : PV.eqv (.lst a) (.lst b) = PV.eqvs a b := by simp [PV.eqv, PV.dat, PyData.eqv, PV.eqvs]
theorem eqv_tup (a b : List PV) : PV.eqv (.tup a) (.tup b) = PV.eqvs a b := by simp [PV.eqv, PV.dat, PyData.eqv, PV.eqvs]
theorem eqvs_nil : PV.eqvs [] [] = true := by simp [PV.eqvs, PV.dats, PyData.eqvAll]
theorem eqvs_nil_cons (x xs) : PV.eqvs [] (x :: xs) = false := by simp [PV.eqvs, PV.dats, PyData.eqvAll]
theorem eqvs_cons_nil (x xs) : PV.eqvs (x :: xs) [] = false := by simp [PV.eqvs, PV.dats, PyData.eqvAll]
theorem eqvs_cons (x xs y ys) : PV.eqvs (x :: xs) (y :: ys) = (PV.eqv x y && PV.eqvs xs ys) := by simp [PV.eqvs, PV.dats, PyData.eqvAll, PV.eqv]
theorem eqvs_map {α : Type} [DecidableEq α] {f : α → PV} (hf : ∀ a b, PV.eqv (f a) (f b) = (a == b)) : ∀ xs ys : List α, PV.eqvs (xs.map f) (ys.map f) = (xs == ys)
  | [], [] => by simp [eqvs_nil]
  | [], y :: ys => by simp [eqvs_nil_cons]
  | x :: xs, [] => by simp [eqvs_cons_nil]
  | x :: xs, y :: ys => by simp [eqvs_cons, hf, eqvs_map hf xs ys]
theorem flats_map {α : Type} {f : α → PV} {n : Nat} : ∀ {xs : List α}, (∀ a ∈ xs, PV.flat n (f a) = true) → PV.flats n (xs.map f) = true
  | [], _ => rfl
  | x :: xs, h => by simp only [List.map_cons, PV.flats, Bool.and_eq_true]; exact ⟨h x List.mem_cons_self, flats_map fun a ha => h a (List.mem_cons_of_mem _ ha)⟩
section
variable {k : Nat} {σ : Sto} {Q : PV → Sto → Prop}
theorem AOk.deep {A : Around} (a : AOk k A) {n : Nat} (h : n ≤ 1000) : A.units + n < cLine := by have := a.units; unfold cLine; lia
theorem TOp.eqD {p q : PV} (n : Nat) (hn : n ≤ 1000) (hp : PV.flat n p = true) (hq : PV.flat n q = true) (h : Q (.bool (PV.eqv p q)) σ) : TOp X k (op2 (compareOp .Eq)) [p, q] σ Q := .of2 fun A W s v u a R r1 r2 => by
  obtain ⟨as, q1⟩ := flat_reads R n p v hp r1
  obtain ⟨bs, q2⟩ := flat_reads R n q u hq r2
  obtain ⟨l1, d1⟩ := flat_lay n p hp
  obtain ⟨l2, d2⟩ := flat_lay n q hq
  exact SeqAt.compareEq_reads q1 q2 l1 l2 (by have := a.deep hn; lia) (HPost.tk R (p := .bool (PV.eqv p q)) rfl h s.toks)
theorem TOp.neD {p q : PV} (n : Nat) (hn : n ≤ 1000) (hp : PV.flat n p = true) (hq : PV.flat n q = true) (h : Q (.bool (!PV.eqv p q)) σ) : TOp X k (op2 (compareOp .NotEq)) [p, q] σ Q := .of2 fun A W s v u a R r1 r2 => by
  obtain ⟨as, q1⟩ := flat_reads R n p v hp r1
  obtain ⟨bs, q2⟩ := flat_reads R n q u hq r2
  obtain ⟨l1, d1⟩ := flat_lay n p hp
  obtain ⟨l2, d2⟩ := flat_lay n q hq
  exact SeqAt.compareNe_reads q1 q2 l1 l2 (by have := a.deep hn; lia) (HPost.tk R (p := .bool (!PV.eqv p q)) rfl h s.toks)
noncomputable def isS (x : Str) : Value → Bool
  | .str y _ => y == x
  | _ => false
/-- how often a text lies in a list of texts -/
theorem TOp.countL {x : Str} {xs : List Str} (h : Q (.int (xs.count x)) σ) : TOp X k (fun vs => PySem.call (.builtin "list.count") vs) [.lst (pss xs), .str x] σ Q := .of2 fun A W s v u a R r1 ⟨z, t, e⟩ => by
  subst e
  obtain ⟨l, vs, n, rfl, hW, zz, q⟩ := r1
  obtain ⟨l', rfl, rfl⟩ := pss_rel q
  have he : ∀ y, y ∈ (strValues l').toArray → MeetsSeq.EqGives y (.str x t) (isS x y) := fun y hy => by
    simp only [List.mem_toArray, strValues, List.mem_map] at hy
    obtain ⟨p, hp, rfl⟩ := hy
    intro prog w A E s Q hq
    exact SeqAt.EqAt.str_str p.1 p.2 x t prog w E Q hq
  refine call_meets F.slot_list_count ⟨_, R.fro hW, rfl⟩ F.entry_list_count (F.args_list_count_2 _ _) (MeetsSeq.list_count l (strValues l').toArray n (.str x t) _ he) ⟨R.fro hW, ?_⟩
  have e : (strValues l').toArray.toList.countP (isS x) = (l'.map (·.1)).count x := by
    simp only [strValues, List.countP_map, List.count_eq_countP]
    rfl
  rw [e]
  exact HPost.tk R (p := .int _) ⟨_, rfl⟩ h _
end
end Mine

end
section
open PySem PySem.W PyProof.Rows
set_option Elab.async false
set_option linter.unusedVariables false
namespace Mine
variable {X : Txt}

theorem Loc.inComp {scope : Scope} {ρ : Loc} {x : Str} (h : scope.names.lookup x = some .free) : compLoc scope ρ x = ρ x := by unfold compLoc; rw [if_pos h]
section
variable {k : Nat} {env : Env} {ρ : Loc} {σ : Sto}

theorem TE.listC (T : X.Ok) {elt : Expr} {g : Comprehension} {gs : List Comprehension} {scope : Scope} {pos : Pos} (hok : (g :: gs).all genOk = true) (hsc : scopeOk env.kindOf scope = true) {Q : PV → Sto → Prop}
    (h : TI X k env g.iter ρ σ fun xs σ1 => ∀ C, TGens X k (compEnvC scope (closOf scope.names env.cells) C env) elt (g :: gs) xs [] (compLoc scope ρ) σ1 fun acc _ σ2 => Q (.lst acc) σ2) :
    TE X k env (.ListComp elt (g :: gs) scope pos) ρ σ Q := TE.listComp T (List.all_eq_true.mp hok) hsc h
theorem T1.assignC (T : X.Ok) {x : Str} {px pos : Pos} {elt : Expr} {g : Comprehension} {gs : List Comprehension} {scope : Scope} {cpos : Pos} {Q : Ctl → Loc → Sto → Prop} (hok : (g :: gs).all genOk = true) (hsc : scopeOk env.kindOf scope = true) (hx : stores env x)
    (h : TI X k env g.iter ρ σ fun xs σ1 => ∀ C, TGens X k (compEnvC scope (closOf scope.names env.cells) C env) elt (g :: gs) xs [] (compLoc scope ρ) σ1 fun acc _ σ2 => Q .next (ρ.set x (.lst acc)) σ2) :
    T1 X k env (.Assign [.Name x px] (.ListComp elt (g :: gs) scope cpos) pos) ρ σ Q := T1.assignComp T (List.all_eq_true.mp hok) hsc hx h
/-- a sequence's item by a number that may be below nought -/
noncomputable def idx (xs : List PV) (i : Int) : Option PV := if 0 ≤ i then xs[i.toNat]? else if -(xs.length : Int) ≤ i then xs[(i + xs.length).toNat]? else none
theorem idx_pos {xs : List PV} {i : Int} (h : 0 ≤ i) : idx xs i = xs[i.toNat]? := if_pos h
theorem idx_last {xs : List PV} {p : PV} : idx (xs ++ [p]) (-1) = some p := by
  unfold idx
  rw [if_neg (by decide), if_pos (by simp only [List.length_append, List.length_cons, List.length_nil]; lia)]
  have : ((-1 : Int) + ((xs ++ [p]).length : Nat)).toNat = xs.length := by
    simp only [List.length_append, List.length_cons, List.length_nil]; lia
  rw [this]; simp
theorem TOp.itL {v sl : Expr} {xs : List PV} {i : Int} {p : PV} {Q : PV → Sto → Prop} (hx : idx xs i = some p) (h : Q p σ) : TOp X k (op2 (subscriptTail v sl)) [.lst xs, .int i] σ Q := by
  unfold idx at hx
  by_cases h0 : 0 ≤ i
  · rw [if_pos h0] at hx; exact TOp.itemL h0 hx h
  · rw [if_neg h0] at hx
    by_cases h1 : -(xs.length : Int) ≤ i
    · rw [if_pos h1] at hx; exact TOp.itemLneg (by lia) h1 hx h
    · rw [if_neg h1] at hx; cases hx
theorem TOp.itP {v sl : Expr} {xs : List PV} {b : Addr} {i : Int} {p : PV} {Q : PV → Sto → Prop} (hb : σ b = some (.list xs)) (hx : idx xs i = some p) (h : Q p σ) : TOp X k (op2 (subscriptTail v sl)) [.ptr b, .int i] σ Q := by
  unfold idx at hx
  by_cases h0 : 0 ≤ i
  · rw [if_pos h0] at hx; exact TOp.itemP hb h0 hx h
  · rw [if_neg h0] at hx
    by_cases h1 : -(xs.length : Int) ≤ i
    · rw [if_pos h1] at hx; exact TOp.itemPneg hb (by lia) h1 hx h
    · rw [if_neg h1] at hx; cases hx
theorem isKind.or {x : Str} (h : stores env x) : env.kindOf x = some .local ∨ env.kindOf x = some .cell := h.loads
/-- an item of a growing list that a name bears -/
inductive kSubP (a : Addr) (Q : PV → Sto → Prop) (i : PV) (σ : Sto) : Prop
  | mk (xs : List PV) (n : Int) (p : PV) (e : i = .int n) (h1 : σ a = some (.list xs)) (h2 : idx xs n = some p) (h : Q p σ)
theorem TE.subP (T : X.Ok) {x : Str} {xp pos : Pos} {sl : Expr} {a : Addr} {Q : PV → Sto → Prop} (hk : env.kindOf x = some .local ∨ env.kindOf x = some .cell) (hp : ρ x = some (.ptr a)) (hd : (x == ("__debug__" : Str)) = false)
    (h : TE X k env sl ρ σ (kSubP a Q)) : TE X k env (.Subscript (.Name x xp) sl pos) ρ σ Q :=
  TE.sub T (TE.raw hk hp hd (h.mono fun i σ1 ⟨xs, n, p, e, h1, h2, h3⟩ => by subst e; exact TOp.itP h1 h2 h3))
theorem seq_at {i : Int} {n : Nat} (h0 : 0 ≤ i) (h : i.toNat < n) : seqIndex? i n = some i.toNat := by
  unfold seqIndex?
  simp only [if_neg (show ¬ i < 0 by lia)]
  rw [if_pos (by simp only [Bool.and_eq_true, decide_eq_true_eq]; lia)]
/-- tuples: items -/
theorem TOp.itT {v sl : Expr} {xs : List PV} {i : Int} {p : PV} {Q : PV → Sto → Prop} (h0 : 0 ≤ i) (hx : xs[i.toNat]? = some p) (h : Q p σ) : TOp X k (op2 (subscriptTail v sl)) [.tup xs, .int i] σ Q := .of2 fun A W s v u a R r1 ⟨t, e⟩ => by
  subst e
  obtain ⟨l, us, rfl, hl, z, q⟩ := VRel.isTup R r1
  obtain ⟨u, hu, ru⟩ := q.get _ _ hx
  have hi : i.toNat < xs.length := by have := List.getElem?_eq_some_iff.mp hx; exact this.1
  have hz : i < 2 ^ 63 := by have := sizeLine_lt; have := q.length; lia
  exact tail_ok hl.typeIs F.slot_tuple_getitem.lookup (PyProof.Rows.getItem_tuple hl (by lia) (by lia) (seq_at h0 (by rw [List.size_toArray, q.length]; exact hi)) (by rw [List.getElem?_toArray]; exact hu) (HPost.here R ru h))
end
end Mine

end
section
open PySem PySem.W PyProof.Rows
set_option Elab.async false
set_option linter.unusedVariables false
namespace Mine
variable {X : Txt}

noncomputable abbrev nat (n : Nat) : PV := .int n
theorem rangeFrom_up : ∀ (n : Nat) (a : Nat), rangeFrom a 1 n = (List.range' a n).map nat
  | 0, _ => rfl
  | n + 1, a => by
    have := rangeFrom_up n (a + 1)
    simp only [rangeFrom, List.range'_succ, List.map_cons]
    rw [show ((a : Int) + 1) = ((a + 1 : Nat) : Int) by lia, this]
theorem range_up (n : Nat) : rangeFrom 0 1 n = (List.range n).map nat := by
  have := rangeFrom_up n 0
  rw [List.range_eq_range']; exact this
section
variable {k : Nat} {env : Env} {ρ : Loc} {σ : Sto}
/-- a comprehension of one clause that changes no store -/
theorem TGens.pure {α : Type} (enc : α → PV) (f : α → Option PV) (I : Loc → Prop) {elt : Expr} {g : Comprehension} {Q : List PV → Loc → Sto → Prop} {xs : List α} {acc : List PV} {ρ : Loc}
    (h0 : I ρ) (hs : ∀ x ∈ xs, ∀ ρ, I ρ → TAsg X k env g.target (enc x) ρ σ fun ρ1 σ1 => TTAnd X k env g.ifs ρ1 σ1 fun b σ2 =>
      Br b (TE X k env elt ρ1 σ2 fun p σ3 => σ3 = σ ∧ f x = some p ∧ I ρ1) (σ2 = σ ∧ f x = none ∧ I ρ1))
    (hl : acc.length + xs.length ≤ sizeLine) (hq : ∀ ρ, I ρ → Q (acc ++ xs.filterMap f) ρ σ) : TGens X k env elt [g] (xs.map enc) acc ρ σ Q := by
  induction xs generalizing acc ρ with
  | nil => have := hq ρ h0; simp only [List.filterMap_nil, List.append_nil] at this; exact this
  | cons x xs ih =>
    show TAsg X k env g.target (enc x) ρ σ fun ρ1 σ1 => TTAnd X k env g.ifs ρ1 σ1 fun b σ2 => Br b (TE X k env elt ρ1 σ2 fun p σ3 => acc.length + 1 ≤ sizeLine ∧ TGens X k env elt [g] (xs.map enc) (acc ++ [p]) ρ1 σ3 Q) (TGens X k env elt [g] (xs.map enc) acc ρ1 σ2 Q)
    refine TAsg.mono (hs x List.mem_cons_self ρ h0) fun ρ1 σ1 h1 => TTAnd.mono h1 fun b σ2 h2 => ?_
    simp only [List.length_cons] at hl
    refine h2.imp (fun h2 => ?_) fun h2 => ?_
    · refine TE.mono h2 fun p σ3 ⟨e, hf, hI⟩ => ⟨by lia, ?_⟩
      subst e
      refine ih hI (fun y hy => hs y (List.mem_cons_of_mem _ hy)) (by simp only [List.length_append, List.length_cons, List.length_nil]; lia) fun ρ hρ => ?_
      have := hq ρ hρ
      rw [List.filterMap_cons_some hf] at this
      rw [List.append_assoc]; exact this
    · obtain ⟨rfl, hf, hI⟩ := h2
      refine ih hI (fun y hy => hs y (List.mem_cons_of_mem _ hy)) (by lia) fun ρ hρ => ?_
      have := hq ρ hρ
      rw [List.filterMap_cons_none hf] at this; exact this
/-- without a test -/
noncomputable abbrev kMapE (σ : Sto) (y : PV) (I : Loc → Prop) (ρ : Loc) (p : PV) (σ' : Sto) : Prop := σ' = σ ∧ p = y ∧ I ρ
noncomputable abbrev kMap (X : Txt) (k : Nat) (env : Env) (elt : Expr) (σ : Sto) (y : PV) (I : Loc → Prop) (ρ : Loc) (σ' : Sto) : Prop := TE X k env elt ρ σ' (kMapE σ y I ρ)
theorem TGens.map {α : Type} (enc : α → PV) (f : α → PV) (I : Loc → Prop) {elt : Expr} {g : Comprehension} {Q : List PV → Loc → Sto → Prop} {xs : List α} {ρ : Loc} (hg : g.ifs = [])
    (h0 : I ρ) (hs : ∀ x ∈ xs, ∀ ρ, I ρ → TAsg X k env g.target (enc x) ρ σ (kMap X k env elt σ (f x) I))
    (hl : xs.length ≤ sizeLine) (hq : ∀ ρ, I ρ → Q (xs.map f) ρ σ) : TGens X k env elt [g] (xs.map enc) [] ρ σ Q := by
  refine TGens.pure enc (fun x => some (f x)) I h0 (fun x hx ρ hρ => ?_) (by simpa using hl) fun ρ hρ => ?_
  · rw [hg]
    exact TAsg.mono (hs x hx ρ hρ) fun ρ1 σ1 h1 => Br.yes (TE.mono h1 fun p σ3 ⟨a, b, c⟩ => ⟨a, by rw [b], c⟩)
  · have := hq ρ hρ
    simpa using this
end
end Mine

end
section
open PySem PySem.W PyProof.Rows
set_option Elab.async false
set_option linter.unusedVariables false
namespace Mine
variable {X : Txt}
section
variable {k : Nat} {env : Env} {ρ : Loc} {σ : Sto}
/-- one of two texts -/
noncomputable abbrev kIfStr (a b : Str) (Q : PV → Sto → Prop) (c : Bool) (σ : Sto) : Prop := Q (.str (if c then a else b)) σ
theorem TE.ifStr {t : Expr} {a b : Str} {j1 j2 : Nat} {p1 p2 pos : Pos} {Q : PV → Sto → Prop} (ha : a.length ≤ sizeLine) (hb : b.length ≤ sizeLine) (h : TT X k env t ρ σ (kIfStr a b Q)) :
    TE X k env (.IfExp t (.Constant (.str a) j1 p1) (.Constant (.str b) j2 p2) pos) ρ σ Q := TE.ifExp (TT.mono h fun c σ1 h1 => ⟨fun e => by subst e; exact TE.str ha h1, fun e => by subst e; exact TE.str hb h1⟩)
end
theorem len_ok {n : Nat} (h : Nat.ble n sizeLine = true) : n ≤ sizeLine := Nat.le_of_ble_eq_true h
theorem sl_big : 100000 ≤ sizeLine := by decide
theorem charAt_in {x : Str} {i : Int} (h0 : 0 ≤ i) (h : i < x.length) : Txt.charAt x i = some (x.cps.toList.getD i.toNat 0) := by
  unfold Txt.charAt
  rw [seq_at h0 (by lia)]
  have : i.toNat < x.cps.size := by unfold Str.length at h; lia
  simp [List.getD, this]
end Mine

end
section
open PySem PySem.W PyProof.Rows
set_option Elab.async false
set_option linter.unusedVariables false
namespace Mine
variable {X : Txt}
/-! two growing lists -/
noncomputable def s2 (σ : Sto) (a b : Addr) (x y : List PV) : Sto := (σ.set a (some (.list x))).set b (some (.list y))
section
variable {σ : Sto} {a b : Addr} {x y x' y' : List PV}
theorem s2a (h : a ≠ b) : s2 σ a b x y a = some (.list x) := (Sto.skip h).trans Sto.hit
theorem s2b : s2 σ a b x y b = some (.list y) := Sto.hit
theorem s2_setA (h : a ≠ b) : (s2 σ a b x y).set a (some (.list x')) = s2 σ a b x' y := by
  unfold s2; rw [Sto.swap (Ne.symm h), Sto.over]
theorem s2_setB : (s2 σ a b x y).set b (some (.list y')) = s2 σ a b x y' := Sto.over
theorem s2_dropB (h : a ≠ b) (ha : σ a = none) (hb : σ b = none) : (s2 σ a b x y).set b none = σ.set a (some (.list x)) := by
  unfold s2
  rw [Sto.over]
  funext c
  unfold Sto.set
  by_cases e : c = b
  · subst e; simp [hb, Ne.symm h]
  · simp [e]
theorem fresh2 {c : Cell} (h : (σ.set a (some c)) b = none) : a ≠ b ∧ σ b = none := by
  unfold Sto.set at h
  by_cases e : b = a
  · subst e; simp at h
  · rw [if_neg e] at h; exact ⟨Ne.symm e, h⟩
end
end Mine

end
section
open PySem PySem.W PyProof.Rows
set_option Elab.async false
set_option linter.unusedVariables false
namespace Mine
variable {X : Txt}
theorem join_len (sep : Str) (B : Nat) : ∀ xs : List Str, (∀ x ∈ xs, x.length ≤ B) → (Str.join sep xs).length ≤ xs.length * (B + sep.length)
  | [], _ => by simp [Str.join, Str.empty, Str.length]
  | [x], h => by
    have := h x List.mem_cons_self
    simp only [Str.join, List.length_cons, List.length_nil]
    omega
  | x :: y :: r, h => by
    have h1 := h x List.mem_cons_self
    have ih := join_len sep B (y :: r) fun z hz => h z (List.mem_cons_of_mem _ hz)
    simp only [Str.join, Str.length_append]
    have e : (x :: y :: r).length * (B + sep.length) = (y :: r).length * (B + sep.length) + (B + sep.length) := by
      rw [List.length_cons, Nat.succ_mul]
    omega
theorem fold_len (sep : Str) (B : Nat) : ∀ (xs : List Str) (n : Nat), (∀ x ∈ xs, x.length ≤ B) → xs.foldl (fun a x => a + x.length + sep.length) n ≤ n + xs.length * (B + sep.length)
  | [], n, _ => by simp
  | x :: r, n, h => by
    have h1 := h x List.mem_cons_self
    have ih := fold_len sep B r (n + x.length + sep.length) fun z hz => h z (List.mem_cons_of_mem _ hz)
    simp only [List.foldl_cons]
    have e : (x :: r).length * (B + sep.length) = r.length * (B + sep.length) + (B + sep.length) := by
      rw [List.length_cons, Nat.succ_mul]
    omega
theorem TOp.joinB {k : Nat} {σ : Sto} {Q : PV → Sto → Prop} {sep : Str} {xs : List Str} (B : Nat) (hB : ∀ x ∈ xs, x.length ≤ B) (hn : xs.length * (B + sep.length) ≤ 1000000) (h : Q (.str (Str.join sep xs)) σ) :
    TOp X k (fun vs => PySem.call (.builtin "str.join") vs) [.str sep, .lst (pss xs)] σ Q := by
  refine TOp.joinL ?_ (Nat.le_trans (join_len sep B xs hB) (Nat.le_trans hn (by decide))) h
  have := fold_len sep B xs 0 hB
  unfold Builtin.Str.tooLong
  simp only [List.foldl_toArray', decide_eq_false_iff_not]
  have hs : 1000000 ≤ sizeLine := by decide
  omega
end Mine

end
section
open PySem PySem.W PyProof.Rows
set_option Elab.async false
set_option linter.unusedVariables false
namespace Mine
variable {X : Txt}
theorem HRel.above {W : Map} {σ : Sto} {s : Shared} (R : HRel X W σ s) {a : Addr} (h : s.heap.objs.size ≤ a) : W a = .no := by
  cases e : W a with
  | no => rfl
  | _ => exact absurd (R.lt (a := a) (by rw [e]; intro h; cases h)) (Nat.not_lt.mpr h)
/-- an object that nothing told of yet -/
theorem HRel.claim (T : X.Ok) {W : Map} {σ : Sto} {s : Shared} (R : HRel X W σ s) {a : Addr} {o : Obj} (hW : W a = .no) (ho : s.heap.get? a = some o) : HRel X (W.set a (.fro o)) σ s ∧ Le W (W.set a (.fro o)) := by
  have r := R.same T (a := a) (x := .fro o) (h' := s.heap) (Heap.SameBut.refl _ _) (by intro o e; rw [hW] at e; cases e) (by rw [hW]; intro e; cases e) (by intro e; cases e) ho s.toks
  have q : σ.set a (Slot.fro o).cell? = σ := R.sto_none (by intro c h; rw [hW] at h; cases h)
  rw [q] at r
  refine ⟨r, ⟨fun b o e => ?_, fun b o e => ?_, fun b e => ?_, fun b e => ?_⟩⟩
  · exact (Map.set_ne (by first | exact nq e (hW) rfl | exact Ne.symm (nq e (hW) rfl))).trans e
  · exact (Map.set_ne (by first | exact nq e (hW) rfl | exact Ne.symm (nq e (hW) rfl))).trans e
  · exact (Map.set_ne (by first | exact nq e (hW) rfl | exact Ne.symm (nq e (hW) rfl))).trans e
  · by_cases q : b = a
    · subst q; exact hW
    · rwa [Map.set_ne q] at e
theorem strs_pss {W : Map} {σ : Sto} {s : Shared} : ∀ {xs : List Str} {vs : List Value}, VRels W (pss xs) vs → StrsAre vs xs
  | [], _, h => by cases h; exact .nil
  | x :: xs, _, ⟨v, vs, e, ⟨z, t, hv⟩, r⟩ => by subst e; subst hv; exact .cons x t (strs_pss (σ := σ) (s := s) r)
theorem pss_strs {W : Map} : ∀ {vs : List Value} {xs : List Str}, StrsAre vs xs → (∀ x ∈ xs, x.length ≤ sizeLine) → VRels W (pss xs) vs
  | _, _, .nil, _ => rfl
  | _, _, .cons x t r, h => ⟨_, _, rfl, ⟨h x List.mem_cons_self, t, rfl⟩, pss_strs r fun y hy => h y (List.mem_cons_of_mem _ hy)⟩
theorem pss_len {W : Map} : ∀ {xs : List Str} {vs : List Value}, VRels W (pss xs) vs → ∀ x ∈ xs, x.length ≤ sizeLine
  | [], _, _, x, hx => by cases hx
  | y :: xs, _, ⟨v, vs, e, ⟨z, t, hv⟩, r⟩, x, hx => by
    rcases List.mem_cons.mp hx with rfl | hx
    · exact z
    · exact pss_len r x hx
theorem TOp.sorted (T : X.Ok) {k : Nat} {σ : Sto} {Q : PV → Sto → Prop} {xs : List Str} (hl : xs.length < 64) (h : ∀ ys : List Str, ys.Perm xs → sortedS ys = true → Q (.lst (pss ys)) σ) :
    TOp X k (fun vs => PySem.call (.builtin "sorted") vs) [.lst (pss xs)] σ Q := .of1 fun A W s v a R r => by
  obtain ⟨l, us, rfl, hL, z, q⟩ := VRel.isList R r
  have hq := q.length
  have hS := strs_pss (σ := σ) (s := s) q
  refine sorted_strs hL hS (by rw [hq, pss, List.length_map]; exact hl) fun out ys h1 h2 h3 => ?_
  obtain ⟨e, he⟩ := sortedAll_at s.heap us out
  have R1 := R.ext T (h' := sortedAll s.heap us out) (fun _ _ => sortedAll_old) s.toks
  obtain ⟨R2, l2⟩ := R1.claim T (a := s.heap.objs.size + 1) (R.above (Nat.le_succ _)) he
  have hlen : out.toList.length = ys.length := h1.length
  have hx := pss_len q
  refine ⟨_, .lst (pss ys), σ, l2, R2, ⟨_, out.toList, e, rfl, Map.set_self .., by rw [hlen, h2.length_eq]; have := sl_big; lia, pss_strs h1 fun x hxx => hx x (h2.mem_iff.mp hxx)⟩, h ys h2 h3⟩
theorem seen_list {σ : Sto} {a : Addr} {xs : List PV} {Q : PV → Sto → Prop} (hs : σ a = some (.list xs)) (h : Q (.lst xs) (σ.set a none)) : seen (.ptr a) σ Q := by simp only [seen, hs]; exact h
end Mine

end
section
open PySem PySem.W PyProof.Rows
set_option Elab.async false
set_option linter.unusedVariables false
set_option maxRecDepth 100000
namespace Mine
variable {X : Txt}
theorem ty_str : typeOf (.type "str") = pure (.type "type") := by kernel_rfl
theorem sub_str : isSubtype (.type "str") (.type "str") = pure true := by kernel_rfl
theorem kind_issn : builtinKind "issubclass.nested" = none := by decide +kernel
theorem plain_issn : plainId "issubclass.nested" = true := by decide +kernel
theorem args_issn (a b c : Value) : argsOk "issubclass.nested" ⟨[a, b, c], []⟩ := by unfold argsOk; kernel_rfl
section
variable {prog : Program} {w : World} {A : Around} {E : Value → Shared → Prop} {s : Shared} {Q : Value → Shared → Prop}
theorem issub_leaf {i : Int} {t : Tok} (hq : Q (.bool true) s) : wpAny (model prog w) A (call (.builtin "issubclass.nested") [.type "str", .type "str", .int i t]) Q E s := by
  refine Calls.call_function_entry kind_issn plain_issn F.entry_issubclass_nested (args_issn _ _ _) ?_
  have hm := ty_str
  have hself := sub_str
  repeat (any_goals (first | assumption | (rw [if_pos hm]) | (rw [hself]) | wp_step))
  exact ⟨_, rfl, hq⟩
theorem sub_tt : isSubtype (.type "tuple") (.type "tuple") = pure true := by kernel_rfl
theorem issub_str {a : Addr} {n : Nat} (ha : s.heap.get? a = some (tupObj [.type "str", .type "bytes"] n)) (hq : Q (.bool true) s) : wpAny (model prog w) A (call (.builtin "issubclass") [.type "str", .ref a]) Q E s := by
  refine call_function_tree F.kind_issubclass F.plain_issubclass F.entry_issubclass (F.args_issubclass_2 _ _) ?_
  refine issubclass_outer (R := fun r s' => match r with | .ok (.ret v) => Q v s' | .ok _ => False | .error e => E e s') ?_
  have hT : s.TypeIs (.ref a) "tuple" := ⟨_, ha, rfl⟩
  unfold Builtin.«issubclass.nested»
  dsimp only
  refine wpAny_bind (wpAny_typeOf hT ?_)
  rw [if_neg (by decide)]
  refine wpAny_bind ?_
  unfold Builtin.Builtins.unionMembers
  refine wpAny_bind (wpAny_typeOf hT ?_)
  rw [if_neg (by decide)]
  refine wpAny_pure (wpAny_bind (wpAny_isInstance (b := true) hT sub_tt ?_))
  simp only [if_true]
  rw [if_neg (by decide)]
  refine wpAny_bind (wpAny_seqItems ha rfl ?_)
  simp only [Option.getD_some]
  simp only [List.forIn_toArray, List.forIn_cons]
  refine wpAny_bind (wpAny_bind (wpAny_bind (issub_leaf (i := 1) ?_)))
  refine wpAny_bind (wpAny_truthy_bool ?_)
  simp only [if_true]
  exact wpAny_bind (wpAny_pure (wpAny_pure (wpAny_pure (wpAny_pure hq))))
end
section
variable {k : Nat} {σ : Sto} {Q : PV → Sto → Prop}
/-- what kind a text is -/
theorem TOp.typeS {x : Str} (h : Q (.glob (.type "str")) σ) : TOp X k (fun vs => PySem.call (.type "type") vs) [.str x] σ Q := .of1 fun A W s v a R ⟨z, t, e⟩ => by
  subst e
  exact call_type_of (typeIs_str _ _ _) (by decide) (HPost.tk R (p := .glob (.type "str")) rfl h s.toks)
theorem TOp.issubS {x y : PV} (hx : x = .glob (.type "str")) (hy : y = .tup [.glob (.type "str"), .glob (.type "bytes")]) (h : Q (.bool true) σ) : TOp X k (fun vs => PySem.call (.builtin "issubclass") vs) [x, y] σ Q := .of2 fun A W s v u a R r1 r2 => by
  subst hx; subst hy
  cases r1
  obtain ⟨c, vs, n, rfl, hW, z, q⟩ := r2
  obtain ⟨v1, _, rfl, h1, v2, _, rfl, h2, rfl⟩ := q
  cases h1; cases h2
  exact issub_str (R.fro hW) (HPost.tk R (p := .bool true) rfl h s.toks)
theorem TOp.isinstS {x : Str} (h : Q (.bool true) σ) : TOp X k (fun vs => PySem.call (.builtin "isinstance") vs) [.str x, .glob (.type "str")] σ Q := .of2 fun A W s v u a R ⟨z, t, e⟩ e2 => by
  subst e
  cases e2
  exact IsiPair.str_str (HPost.tk R (p := .bool true) rfl h s.toks)
theorem TOp.isinstB {x : Str} (h : Q (.bool false) σ) : TOp X k (fun vs => PySem.call (.builtin "isinstance") vs) [.str x, .glob (.type "bytes")] σ Q := .of2 fun A W s v u a R ⟨z, t, e⟩ e2 => by
  subst e
  cases e2
  exact IsiPair.str_bytes (HPost.tk R (p := .bool false) rfl h _)
end
end Mine

end
section
open PySem PySem.W PyProof.Rows
set_option Elab.async false
set_option linter.unusedVariables false
set_option maxRecDepth 100000
namespace Mine
variable {X : Txt} {k : Nat} {env : Env} {ρ : Loc} {σ : Sto} {Q : PV → Sto → Prop}
theorem TE.id {e : Expr} (h : TE X k env e ρ σ Q) : TE X k env e ρ σ Q := h
theorem TE.m_str_join (T : X.Ok) {o : Expr} {apos pos : Pos} {args : List Expr} (hbase : attributeBase o (Str.ofString "join") env (eval o env) = eval o env) (hn : noStar args = true) (hl : Nat.blt args.length 20 = true) (hline : (apos.endLine == pos.line) = true)
    (h : TE X k env o ρ σ (kMeth X k env "str" "str.join" args ρ Q)) :
    TE X k env (.Call (.Attribute o (Str.ofString "join") apos) args [] pos) ρ σ Q :=
  TE.meth T F.plainAttrs_str F.slot_str_join F.type_str_join hbase hn (Nat.blt_eq.mp hl) hline h
theorem TE.m_str_count (T : X.Ok) {o : Expr} {apos pos : Pos} {args : List Expr} (hbase : attributeBase o (Str.ofString "count") env (eval o env) = eval o env) (hn : noStar args = true) (hl : Nat.blt args.length 20 = true) (hline : (apos.endLine == pos.line) = true)
    (h : TE X k env o ρ σ (kMeth X k env "str" "str.count" args ρ Q)) :
    TE X k env (.Call (.Attribute o (Str.ofString "count") apos) args [] pos) ρ σ Q :=
  TE.meth T F.plainAttrs_str F.slot_str_count F.type_str_count hbase hn (Nat.blt_eq.mp hl) hline h
theorem TE.m_str_rfind (T : X.Ok) {o : Expr} {apos pos : Pos} {args : List Expr} (hbase : attributeBase o (Str.ofString "rfind") env (eval o env) = eval o env) (hn : noStar args = true) (hl : Nat.blt args.length 20 = true) (hline : (apos.endLine == pos.line) = true)
    (h : TE X k env o ρ σ (kMeth X k env "str" "str.rfind" args ρ Q)) :
    TE X k env (.Call (.Attribute o (Str.ofString "rfind") apos) args [] pos) ρ σ Q :=
  TE.meth T F.plainAttrs_str F.slot_str_rfind F.type_str_rfind hbase hn (Nat.blt_eq.mp hl) hline h
theorem TE.m_str_startswith (T : X.Ok) {o : Expr} {apos pos : Pos} {args : List Expr} (hbase : attributeBase o (Str.ofString "startswith") env (eval o env) = eval o env) (hn : noStar args = true) (hl : Nat.blt args.length 20 = true) (hline : (apos.endLine == pos.line) = true)
    (h : TE X k env o ρ σ (kMeth X k env "str" "str.startswith" args ρ Q)) :
    TE X k env (.Call (.Attribute o (Str.ofString "startswith") apos) args [] pos) ρ σ Q :=
  TE.meth T F.plainAttrs_str F.slot_str_startswith F.type_str_startswith hbase hn (Nat.blt_eq.mp hl) hline h
theorem TE.m_str_endswith (T : X.Ok) {o : Expr} {apos pos : Pos} {args : List Expr} (hbase : attributeBase o (Str.ofString "endswith") env (eval o env) = eval o env) (hn : noStar args = true) (hl : Nat.blt args.length 20 = true) (hline : (apos.endLine == pos.line) = true)
    (h : TE X k env o ρ σ (kMeth X k env "str" "str.endswith" args ρ Q)) :
    TE X k env (.Call (.Attribute o (Str.ofString "endswith") apos) args [] pos) ρ σ Q :=
  TE.meth T F.plainAttrs_str F.slot_str_endswith F.type_str_endswith hbase hn (Nat.blt_eq.mp hl) hline h
theorem TE.m_str_rstrip (T : X.Ok) {o : Expr} {apos pos : Pos} {args : List Expr} (hbase : attributeBase o (Str.ofString "rstrip") env (eval o env) = eval o env) (hn : noStar args = true) (hl : Nat.blt args.length 20 = true) (hline : (apos.endLine == pos.line) = true)
    (h : TE X k env o ρ σ (kMeth X k env "str" "str.rstrip" args ρ Q)) :
    TE X k env (.Call (.Attribute o (Str.ofString "rstrip") apos) args [] pos) ρ σ Q :=
  TE.meth T F.plainAttrs_str F.slot_str_rstrip F.type_str_rstrip hbase hn (Nat.blt_eq.mp hl) hline h
theorem TE.m_str_split (T : X.Ok) {o : Expr} {apos pos : Pos} {args : List Expr} (hbase : attributeBase o (Str.ofString "split") env (eval o env) = eval o env) (hn : noStar args = true) (hl : Nat.blt args.length 20 = true) (hline : (apos.endLine == pos.line) = true)
    (h : TE X k env o ρ σ (kMeth X k env "str" "str.split" args ρ Q)) :
    TE X k env (.Call (.Attribute o (Str.ofString "split") apos) args [] pos) ρ σ Q :=
  TE.meth T F.plainAttrs_str F.slot_str_split F.type_str_split hbase hn (Nat.blt_eq.mp hl) hline h
theorem TE.m_list_count (T : X.Ok) {o : Expr} {apos pos : Pos} {args : List Expr} (hbase : attributeBase o (Str.ofString "count") env (eval o env) = eval o env) (hn : noStar args = true) (hl : Nat.blt args.length 20 = true) (hline : (apos.endLine == pos.line) = true)
    (h : TE X k env o ρ σ (kMeth X k env "list" "list.count" args ρ Q)) :
    TE X k env (.Call (.Attribute o (Str.ofString "count") apos) args [] pos) ρ σ Q :=
  TE.meth T F.plainAttrs_list F.slot_list_count F.type_list_count hbase hn (Nat.blt_eq.mp hl) hline h
theorem TE.m_list_index (T : X.Ok) {o : Expr} {apos pos : Pos} {args : List Expr} (hbase : attributeBase o (Str.ofString "index") env (eval o env) = eval o env) (hn : noStar args = true) (hl : Nat.blt args.length 20 = true) (hline : (apos.endLine == pos.line) = true)
    (h : TE X k env o ρ σ (kMeth X k env "list" "list.index" args ρ Q)) :
    TE X k env (.Call (.Attribute o (Str.ofString "index") apos) args [] pos) ρ σ Q :=
  TE.meth T F.plainAttrs_list F.slot_list_index F.type_list_index hbase hn (Nat.blt_eq.mp hl) hline h
end Mine

end
section
open PySem PySem.W PyProof.Rows
set_option Elab.async false
set_option linter.unusedVariables false
set_option maxRecDepth 100000
namespace Mine
variable {X : Txt}
theorem AOk.in1' {k : Nat} {A : Around} (a : AOk (k + 1) A) : AOk k A.in1 := a.in1
/-- a def whose arguments are bound by a run of their own -/
theorem TOp.defB (T : X.Ok) {k : Nat} {fa : Addr} {o : Obj} {fd : FuncData} {names : List Str} {body : List Stmt} {ps : List PV} {σ : Sto} {Q : PV → Sto → Prop} (P : List PV → Prop)
    (hK : X.K.lookup fa = some o) (hd : o.data = .func fd) (hbody : fd.body = .stmts body) (hclo : fd.closure = []) (hgl : fd.globals = mainGlobals) (hbl : fd.builtins = builtinsNs)
    (hcode : codeIn X.K fd.code fd.qualname = true) (hkinds : ∀ x ∈ names, fd.scope.names.lookup x = some .local ∨ fd.scope.names.lookup x = some .cell)
    (hco : fd.scope.isCoroutine = false) (hgen : fd.scope.isGenerator = false) (hkd : fd.scope.kind = .function)
    (hbind : ∀ A W s vs, AOk k A → HRel X W σ s → VRels W ps vs → wpAny X.M A (bindArgs fd ⟨vs, []⟩) (fun binds s' => ∃ W' qs us, Le W W' ∧ HRel X W' σ s' ∧ VRels W' qs us ∧ binds = names.zip us ∧ qs.length = names.length ∧ P qs) (fun _ _ => False) s)
    (h : ∀ qs, P qs → TDef X k names body fd.scope qs σ Q) : TOp X (k + 1) (fun vs => PySem.call (.ref fa) vs) ps σ Q := .mk fun A W s vs a R r => by
  have ho := R.K T _ _ hK
  refine wpAny_call (codeAny_call_function a.lim ho hd hco hgen hbody (codeRec_of (R.K T) hcode) ?_)
  rw [hclo]
  refine wpAny_mono (hbind A.in1 W s vs a.in1 R r) (fun binds s' hb => ?_) fun _ _ e => e.elim
  obtain ⟨W', qs, us, l, R', r', rfl, hl, hP⟩ := hb
  refine wpAny_newFunctionEnv_cells hkd (fun x hx => ?_) fun env he s'' x => ?_
  · have := hkinds x.1 (List.of_mem_zip hx).1
    rcases this with e | e
    · exact .inl e
    · exact .inr ⟨e, cellsFrom_some _ _ _ (.inl e)⟩
  · subst he
    refine ⟨(R'.limit T).keeps x.toInCall.keep, codeAny_func ?_⟩
    exact wpAny_mono (enter_core T hgl hbl hkinds hkd hl (h qs hP) a R' r' x) (fun _ _ q => HPost.le l q) fun _ _ e => e.elim
end Mine

end
section
open PySem PySem.W PyProof.Rows
set_option Elab.async false
set_option linter.unusedVariables false
set_option maxRecDepth 100000
namespace Mine
variable {X : Txt}

/-- statements, told which body runs -/
structure TSA (X : Txt) (k : Nat) (body : List Stmt) (env : Env) (ss : List Stmt) (ρ : Loc) (σ : Sto) (Q : Ctl → Loc → Sto → Prop) : Prop where
  run : ∀ A W s, AOk k A → HRel X W σ s → FOk W env ρ s.heap → _root_.PySem.wpAt X.M A (.func body env) (execs ss env) (SPost X W env Q) (fun _ _ => False) s
structure T1A (X : Txt) (k : Nat) (body : List Stmt) (env : Env) (st : Stmt) (ρ : Loc) (σ : Sto) (Q : Ctl → Loc → Sto → Prop) : Prop where
  run : ∀ A W s, AOk k A → HRel X W σ s → FOk W env ρ s.heap → _root_.PySem.wpAt X.M A (.func body env) (exec st env) (SPost X W env Q) (fun _ _ => False) s
structure TEA (X : Txt) (k : Nat) (body : List Stmt) (env : Env) (e : Expr) (ρ : Loc) (σ : Sto) (Q : PV → Sto → Prop) : Prop where
  run : ∀ A W s, AOk k A → HRel X W σ s → FOk W env ρ s.heap → _root_.PySem.wpAt X.M A (.func body env) (eval e env) (VPost X W env ρ Q) (fun _ _ => False) s
section
variable {k : Nat} {body : List Stmt} {env : Env} {ρ : Loc} {σ : Sto} {Q : Ctl → Loc → Sto → Prop}
theorem TSA.of {ss : List Stmt} (h : TS X k env ss ρ σ Q) : TSA X k body env ss ρ σ Q := .mk fun A W s a R F => _root_.PySem.wpAt_of_wpAny (h.run A W s a R F)
theorem T1A.of {st : Stmt} (h : T1 X k env st ρ σ Q) : T1A X k body env st ρ σ Q := .mk fun A W s a R F => _root_.PySem.wpAt_of_wpAny (h.run A W s a R F)
theorem TSA.cons {st : Stmt} {ss : List Stmt} (h : T1A X k body env st ρ σ fun c ρ1 σ1 => match c with | .next => TSA X k body env ss ρ1 σ1 Q | c => Q c ρ1 σ1) : TSA X k body env (st :: ss) ρ σ Q := .mk fun A W s a R F => by
  refine ks_wpAt_execs_cons (_root_.PySem.wpAt_mono (h.run A W s a R F) (fun f s1 h1 => ?_) fun _ _ e => e)
  obtain ⟨W1, c, ρ1, σ1, l1, R1, F1, rc, h1⟩ := h1
  cases c with
  | next => cases rc; exact _root_.PySem.wpAt_mono (h1.run A W1 s1 a R1 F1) (fun _ _ q => q.le l1) fun _ _ e => e
  | brk => cases rc; exact ⟨W1, .brk, ρ1, σ1, l1, R1, F1, rfl, h1⟩
  | cont => cases rc; exact ⟨W1, .cont, ρ1, σ1, l1, R1, F1, rfl, h1⟩
  | ret p => obtain ⟨v, rfl, rv⟩ := rc; exact ⟨W1, .ret p, ρ1, σ1, l1, R1, F1, ⟨v, rfl, rv⟩, h1⟩
theorem T1A.ret {e : Expr} {pos} (h : TEA X k body env e ρ σ fun p σ1 => Q (.ret p) ρ σ1) : T1A X k body env (.Return (some e) pos) ρ σ Q := .mk fun A W s a R F => by
  refine ks_wpAt_Return_some (_root_.PySem.wpAt_mono (h.run A W s a R F) (fun v s1 h1 => ?_) fun _ _ e => e)
  obtain ⟨W1, p, σ1, l1, R1, F1, r1, h1⟩ := h1
  exact ⟨W1, .ret p, ρ, σ1, l1, R1, F1, ⟨v, rfl, r1⟩, h1⟩
theorem T1A.expr {e : Expr} {pos} (hv : plainVal e = true) (h : TEA X k body env e ρ σ fun _ σ1 => Q .next ρ σ1) : T1A X k body env (.Expr e pos) ρ σ Q := .mk fun A W s a R F => by
  refine ks_wpAt_Expr_any (_root_.PySem.wpAt_mono (h.run A W s a R F) (fun v s1 h1 => ?_) fun _ _ e => e) (by unfold interactive; rw [F.kind]; rfl) (swaps_plain hv)
  obtain ⟨W1, p, σ1, l1, R1, F1, r1, h1⟩ := h1
  exact ⟨W1, .next, ρ, σ1, l1, R1, F1, rfl, h1⟩
end
end Mine

end
section
open PySem PySem.W PyProof.Rows
set_option Elab.async false
set_option linter.unusedVariables false
set_option maxRecDepth 100000
namespace Mine
theorem slot_md_get : PySem.Slot "method_descriptor" "__get__" "method_descriptor.__get__" := .of (owner := "method_descriptor") (n := "__get__") (by rw [typeLookup_type, builtinLookup_eq_fast]; kernel_rfl) (by decide +kernel) (by decide +kernel) (by decide +kernel)
  (.inl (by decide +kernel)) (by kernel_rfl)
theorem entry_md_get : entryFor table "method_descriptor.__get__" = some Builtin.«method_descriptor.__get__» := entryFor_of_tree (by kernel_rfl)
theorem args_md_get (a b c : Value) : argsOk "method_descriptor.__get__" ⟨[a, b, c], []⟩ := by unfold argsOk; kernel_rfl
theorem slot_wd_get : PySem.Slot "wrapper_descriptor" "__get__" "wrapper_descriptor.__get__" := .of (owner := "wrapper_descriptor") (n := "__get__") (by rw [typeLookup_type, builtinLookup_eq_fast]; kernel_rfl) (by decide +kernel) (by decide +kernel) (by decide +kernel)
  (.inl (by decide +kernel)) (by kernel_rfl)
theorem entry_wd_get : entryFor table "wrapper_descriptor.__get__" = some Builtin.«wrapper_descriptor.__get__» := entryFor_of_tree (by kernel_rfl)
theorem args_wd_get (a b c : Value) : argsOk "wrapper_descriptor.__get__" ⟨[a, b, c], []⟩ := by unfold argsOk; kernel_rfl
section
variable {prog : Program} {w : World} {A : Around} {E : Value → Shared → Prop} {h : Heap} {g : Array GenState} {d : Drawn} {t : Nat} {os : OsState}
theorem wd_get {id : String} {x C : Addr} {ox : Obj} {Q : PySem.Fin → Shared → Prop} (hid : ".".intercalate (id.cutAt '.').dropLast = "list") (hx : h.get? x = some ox) (hc : ox.cls = .ref C) (hs : Looks (model prog w) h (isSubtype (.ref C) (.type "list")) true)
    (hq : Q (.done (.ret (.ref h.objs.size))) ⟨h.push { cls := .type "method-wrapper", data := .fields #[.builtin id, .ref x] }, g, d, t, os⟩) :
    wpAny (model prog w) A (Builtin.«wrapper_descriptor.__get__» ⟨[.builtin id, .ref x, .ref C], []⟩) Q E ⟨h, g, d, t, os⟩ := by
  unfold Builtin.«wrapper_descriptor.__get__»
  repeat (first | wp_step | dsimp only)
  rw [hc, hid]
  refine Looks.at hs ?_
  rw [if_neg (by decide)]
  repeat (first | wp_step | dsimp only)
  all_goals exact hq
theorem md_get {id : String} {x C : Addr} {ox : Obj} {Q : PySem.Fin → Shared → Prop} (hid : ".".intercalate (id.cutAt '.').dropLast = "list") (ht : Manifest.toldItsClass.contains id = false) (hx : h.get? x = some ox) (hc : ox.cls = .ref C) (hs : Looks (model prog w) h (isSubtype (.ref C) (.type "list")) true)
    (hq : Q (.done (.ret (.ref h.objs.size))) ⟨h.push { cls := .type "builtin_function_or_method", data := .fields #[.builtin id, .ref x] }, g, d, t, os⟩) :
    wpAny (model prog w) A (Builtin.«method_descriptor.__get__» ⟨[.builtin id, .ref x, .ref C], []⟩) Q E ⟨h, g, d, t, os⟩ := by
  unfold Builtin.«method_descriptor.__get__»
  repeat (first | (simp only [ht, Bool.false_eq_true, if_false]) | wp_step | dsimp only)
  rw [hc, hid]
  refine Looks.at hs ?_
  rw [if_neg (by decide)]
  repeat (first | wp_step | dsimp only)
  all_goals exact hq
theorem ga_b {so D x C : Addr} {id DT gid bt : String} {B : Builtin} {l₀ l : List Value} {K : Frag} {name : Str} {tk : Tok} {Q : PySem.Fin → Shared → Prop}
    (hso : h.get? so = some { cls := .type "super", dict := none, data := .fields #[.ref D, .ref x, .ref C], slots := #[] }) (hno : Looks (model prog w) h (opaqueClassAbove (.ref C)) none)
    (hC : Looks (model prog w) h (mroOf (.ref C)) l₀) (hl : (l₀.dropWhile (· != .ref D)).drop 1 = l) (X : K.In h)
    (hf : alongIn K name l = some (some (.builtin id))) (hty : typeOf (.builtin id) = pure (.type DT)) (slot : PySem.Slot DT "__get__" gid) (hT : ∀ s : Shared, s.TypeIs (.builtin id) DT)
    (entry : entryFor table gid = some B) (args : argsOk gid ⟨[.builtin id, .ref x, .ref C], []⟩) (hxC : x ≠ C) (hn : (name == ("__class__" : Str)) = false)
    (hget : ∀ (A : Around) (E : Value → Shared → Prop) (Q : PySem.Fin → Shared → Prop), Q (.done (.ret (.ref h.objs.size))) ⟨h.push { cls := .type bt, data := .fields #[.builtin id, .ref x] }, g, d, t, os⟩ → wpAny (model prog w) A (B ⟨[.builtin id, .ref x, .ref C], []⟩) Q E ⟨h, g, d, t, os⟩)
    (hq : Q (.done (.ret (.ref h.objs.size))) ⟨h.push { cls := .type bt, data := .fields #[.builtin id, .ref x] }, g, d, t, os⟩) :
    wpAny (model prog w) A (Builtin.«super.__getattribute__» ⟨[.ref so, .str name tk], []⟩) Q E ⟨h, g, d, t, os⟩ := by
  have hlk := slot.lookup
  have hne : (Value.ref x == Value.ref C) = false := by simp [hxC]
  have hdt : ({ cls := .type "super", dict := none, data := .fields #[.ref D, .ref x, .ref C], slots := #[] } : Obj).data = .fields #[.ref D, .ref x, .ref C] := rfl
  have f0 : (#[.ref D, .ref x, .ref C] : Array Value)[0]? = some (.ref D) := rfl
  have f1 : (#[.ref D, .ref x, .ref C] : Array Value)[1]? = some (.ref x) := rfl
  have f2 : (#[.ref D, .ref x, .ref C] : Array Value)[2]? = some (.ref C) := rfl
  unfold Builtin.«super.__getattribute__»
  repeat (first
    | (with_reducible refine wpAny_field hso hdt f0 ?_) | (with_reducible refine wpAny_field hso hdt f1 ?_) | (with_reducible refine wpAny_field hso hdt f2 ?_)
    | (with_reducible refine ks_wpAny_notOpaque hno ?_)
    | (with_reducible refine Looks.at hC ?_; rw [hl])
    | (refine ks_forIn_along X (fun _ _ => rfl) rfl ?_ hf)
    | (with_reducible refine wpAny_of_eq hty ?_)
    | (with_reducible refine wpAny_call_entry slot (hT _) entry ?_ args)
    | (refine hget _ _ _ ?_)
    | (with_reducible refine ⟨_, rfl, ?_⟩)
    | (simp only [hn, hne, hlk, Bool.or_false, Bool.false_eq_true, if_false])
    | wp_step
    | dsimp only)
  all_goals exact hq
theorem method_b {so D x C : Addr} {id DT gid bt : String} {B : Builtin} {l₀ l : List Value} {K : Frag} {name : Str} {pl : Sem Bool} {Q : Value × List Value → Shared → Prop}
    (hso : h.get? so = some { cls := .type "super", dict := none, data := .fields #[.ref D, .ref x, .ref C], slots := #[] }) (hno : Looks (model prog w) h (opaqueClassAbove (.ref C)) none)
    (hC : Looks (model prog w) h (mroOf (.ref C)) l₀) (hl : (l₀.dropWhile (· != .ref D)).drop 1 = l) (X : K.In h)
    (hf : alongIn K name l = some (some (.builtin id))) (hty : typeOf (.builtin id) = pure (.type DT)) (slot : PySem.Slot DT "__get__" gid) (hT' : ∀ s : Shared, s.TypeIs (.builtin id) DT)
    (entry : entryFor table gid = some B) (args : argsOk gid ⟨[.builtin id, .ref x, .ref C], []⟩) (hxC : x ≠ C) (hn : (name == ("__class__" : Str)) = false)
    (hget : ∀ (t : Nat) (A : Around) (E : Value → Shared → Prop) (Q : PySem.Fin → Shared → Prop), Q (.done (.ret (.ref h.objs.size))) ⟨h.push { cls := .type bt, data := .fields #[.builtin id, .ref x] }, g, d, t, os⟩ → wpAny (model prog w) A (B ⟨[.builtin id, .ref x, .ref C], []⟩) Q E ⟨h, g, d, t, os⟩)
    (hq : Q (.ref h.objs.size, []) ⟨h.push { cls := .type bt, data := .fields #[.builtin id, .ref x] }, g, d, t + 1, os⟩) :
    wpAny (model prog w) A (getMethod (.ref so) name pl) Q E ⟨h, g, d, t, os⟩ := by
  have hlk := F.ks_slot_super_ga.lookup
  have hcan := F.ks_canon_super_ga
  have hT : ∀ t', (⟨h, g, d, t', os⟩ : Shared).TypeIs (.ref so) "super" := fun _ => ⟨_, hso, rfl⟩
  unfold getMethod
  refine wpAny_bind (wpAny_specialOf (hT _) hlk ?_)
  show wpAny _ _ (if (Manifest.canonical "super.__getattribute__" != "object.__getattribute__") = true then _ else _) _ _ _
  rw [if_pos hcan]
  unfold getAttr getAttrBy
  refine wpAny_bind (wpAny_bind (wpAny_mkText (wpAny_holding (wpAny_bind (wpAny_typeOf (hT _) (wpAny_bind (wpAny_of_eq hlk ?_)))))))
  show wpAny _ _ (getAttrByItsOwn (.ref so) (.str name t) (.type "super") (.builtin "super.__getattribute__") true false) _ _ _
  unfold getAttrByItsOwn hookBefore callGetattribute boundAndCalled
  refine wpAny_bind (wpAny_of_eq (show (if onTheHeap (.type "super") then typeLookup (.type "super") "__getattr__" else pure none) = pure none from rfl) ?_)
  refine wpAny_bind (wpAny_attempt (wpAny_holding ?_))
  show wpAny _ _ (bindSpecial (.builtin "super.__getattribute__") (.ref so) >>= _) _ _ _
  refine wpAny_bind (wpAny_of_eq (F.ks_slot_super_ga.bind _) ?_)
  refine wpAny_mono (Q := fun v s' => v = .ref h.objs.size ∧ s' = ⟨h.push { cls := .type bt, data := .fields #[.builtin id, .ref x] }, g, d, t + 1, os⟩) (E := fun _ _ => False)
    (wpAny_call_entry F.ks_slot_super_ga (hT _) F.ks_entry_super_ga (ga_b hso hno hC hl X hf hty slot hT' entry args hxC hn (hget _) ⟨_, rfl, rfl, rfl⟩) (F.ks_gaArgs_super _ _)) (fun v s' hv => ?_) fun _ _ z => z.elim
  obtain ⟨rfl, rfl⟩ := hv
  exact wpAny_pure (wpAny_pure hq)
end
end Mine

end
section
open PySem PySem.W PyProof.Rows
set_option Elab.async false
set_option linter.unusedVariables false
set_option maxRecDepth 100000
namespace Mine
theorem check_len (v : Value) : checkBoundCall "list.__len__" ⟨[v], []⟩ = pure () := by kernel_rfl
section
variable {prog : Program} {w : World} {A : Around} {s : Shared} {R : Result → Shared → Prop}
theorem call_boundB {b x : Addr} {id bt : String} {vs : List Value} (hb : s.heap.get? b = some { cls := .type bt, dict := none, data := .fields #[.builtin id, .ref x], slots := #[] })
    (hbt : bt = "builtin_function_or_method" ∨ bt = "method-wrapper") (hc : wpAny (model prog w) A.in1 (checkBoundCall id ⟨.ref x :: vs, []⟩) (fun _ s' => s' = s) (fun _ _ => False) s)
    (hq : codeAny (model prog w) A (.builtin id ⟨.ref x :: vs, []⟩) R s) (hqt : (Code.builtin id ⟨.ref x :: vs, []⟩).quiet = true) : codeAny (model prog w) A (.call (.ref b) ⟨vs, []⟩) R s := by
  refine codeAny_of_tree ?_
  show wpAny _ A.in1 (callAny (.ref b) ⟨vs, []⟩) _ _ _
  unfold callAny
  refine wpAny_bind (wpAny_load hb ?_)
  rcases hbt with rfl | rfl
  all_goals
    refine wpAny_bind (wpAny_mono hc (fun _ s' e => ?_) fun _ _ e => e.elim)
    subst e
    exact wpAny_pure ⟨hqt, hq⟩
end
end Mine

end
section
open PySem PySem.W PyProof.Rows
set_option Elab.async false
set_option linter.unusedVariables false
set_option maxRecDepth 100000
namespace Mine
section
variable {prog : Program} {w : World} {A : Around} {E : Value → Shared → Prop} {h : Heap} {g : Array GenState} {d : Drawn} {t : Nat} {os : OsState}
theorem own_len {x C : Addr} {dd : Option Addr} {its : Array Value} {n : Nat} {Q : PySem.Fin → Shared → Prop} (hx : h.get? x = some { cls := .ref C, dict := dd, data := .seq its n })
    (hq : Q (.done (.ret (.int its.size t))) ⟨h, g, d, t + 1, os⟩) : wpAny (model prog w) A (Builtin.«list.__len__» ⟨[.ref x], []⟩) Q E ⟨h, g, d, t, os⟩ := by
  unfold Builtin.«list.__len__»
  repeat (first | (with_reducible refine AutoSeq1.wpAny_loadPart' hx ?_) | wp_step | dsimp only)
  all_goals exact hq
theorem own_pop {x C : Addr} {dd : Option Addr} {l : List Value} {v : Value} {n : Nat} {Q : PySem.Fin → Shared → Prop} (hx : h.get? x = some { cls := .ref C, dict := dd, data := .seq (l ++ [v]).toArray n })
    (hz : (l ++ [v]).length ≤ sizeLine) (hq : ∀ n', Heap.SameBut x h (h.update x (Obj.mapSeq (·.eraseIdxIfInBounds l.length))) → (h.update x (Obj.mapSeq (·.eraseIdxIfInBounds l.length))).get? x = some { cls := .ref C, dict := dd, data := .seq l.toArray n' } →
      Q (.done (.ret v)) ⟨h.update x (Obj.mapSeq (·.eraseIdxIfInBounds l.length)), g, d, t, os⟩) : wpAny (model prog w) A (Builtin.«list.pop» ⟨[.ref x], []⟩) Q E ⟨h, g, d, t, os⟩ := by
  unfold Builtin.«list.pop»
  repeat (first | (with_reducible refine AutoSeq1.wpAny_loadPart' hx ?_) | wp_step | dsimp only)
  have hk : seqIndex? (-1) (l ++ [v]).toArray.size = some l.length := by
    unfold seqIndex?
    simp only [List.size_toArray, List.length_append, List.length_cons, List.length_nil, if_pos (show (-1 : Int) < 0 by decide)]
    rw [if_pos (by simp only [Bool.and_eq_true, decide_eq_true_eq]; lia)]
    congr 1; lia
  have hi : (l ++ [v]).toArray[l.length]? = some v := by simp
  rw [hk]
  simp only [Option.bind_some, hi, Option.map_some]
  have he : (l ++ [v]).eraseIdx l.length = l := by rw [List.eraseIdx_append_of_length_le (Nat.le_refl _)]; simp
  have e : Obj.mapSeq (·.eraseIdxIfInBounds l.length) { cls := .ref C, dict := dd, data := .seq (l ++ [v]).toArray n } = ({ cls := .ref C, dict := dd, data := .seq l.toArray (n + 1) } : Obj) := by
    simp [Obj.mapSeq, he]
  unfold Builtin.List.listUpdate
  refine wpAny_bind (wpAny_updateSeq hx rfl (wpAny_pure (hq (n + 1) (Heap.SameBut.update ..) ?_)) (by simpa using hz) (by simp only [List.eraseIdxIfInBounds_toArray, List.size_toArray, he]; simp at hz; lia))
  rw [Heap.get?_update_self _ hx (by rw [e]; rfl), e]
end
end Mine

end
section
open PySem PySem.W PyProof.Rows
set_option Elab.async false
set_option linter.unusedVariables false
set_option maxRecDepth 100000
namespace Mine
variable {X : Txt}

/-- what the class brings -/
structure AccCls (X : Txt) : Prop where
  get : findIn X.K (.ref X.accCls) "__getattribute__" = some (some (.builtin "list.__getattribute__"))
  getx : findIn X.K (.ref X.accCls) "__getattr__" = some none
  dict : hasDictIn X.K X.accCls = true
  attr : findIn X.K (.ref X.accCls) "_initial_size" = some none
  set : findIn X.K (.ref X.accCls) "__setattr__" = some (some (.builtin "object.__setattr__"))
  mro : ∃ cd, clsIn X.K X.accCls = some cd ∧ cd.mro = [.ref X.accCls, .type "list", .type "object"]
  tab : X.accCls ∉ X.tabs

noncomputable abbrev accObj (X : Txt) (d : Addr) (vs : List Value) (n : Nat) : Obj := { cls := .ref X.accCls, dict := some d, data := .seq vs.toArray n }
noncomputable abbrev dicObj (es : Array DictEntry) (n : Nat) : Obj := { cls := .type "dict", data := .dict es n }

inductive AccInst (X : Txt) (W : Map) (s : Shared) (a d : Addr) (xs : List PV) (i : Option Int) : Prop
  | mk (vs : List Value) (n : Nat) (es : Array DictEntry) (m : Nat) (hW : W a = .cel (.acc d xs)) (hV : W d = .cel (.ini i)) (h1 : s.heap.get? a = some (accObj X d vs n)) (z : vs.length ≤ sizeLine) (q : VRels W xs vs) (h2 : s.heap.get? d = some (dicObj es m)) (i2 : ini? X.w i es)
    (I : InstAt s.heap a (accObj X d vs n) X.accCls (some (dicObj es m)))
theorem acc_inst {W : Map} {σ : Sto} {s : Shared} {a d : Addr} {xs : List PV} {i : Option Int} (R : HRel X W σ s) (ha : σ a = some (.acc d xs)) (hd : σ d = some (.ini i)) :
    AccInst X W s a d xs i := by
  have hW := (R.cel a _).mp ha
  have hV := (R.cel d _).mp hd
  obtain ⟨vs, n, h1, z, q⟩ := R.at' hW
  obtain ⟨es, m, h2, i2⟩ := R.at' hV
  exact ⟨vs, n, es, m, hW, hV, h1, z, q, h2, i2, ⟨h1, rfl, rfl, h2⟩⟩

theorem nm_is {t : Tok} : (Value.str ("_initial_size" : Str) t).isStr ("_initial_size" : Str) = true := by
  show (("_initial_size" : Str) == ("_initial_size" : Str)) = true
  simp
theorem ini_get {w : World} {n : Int} {es : Array DictEntry} (h : ini? w (some n) es) : ∃ t, getL "_initial_size" es.toList = some (some (.int n t)) := by
  obtain ⟨t, t', rfl⟩ := h
  refine ⟨t, ?_⟩
  unfold getL
  have : List.find? (fun x : DictEntry => x.key.isStr ("_initial_size" : Str)) [⟨PyData.keyHash w.params "_initial_size", .str "_initial_size" t', .int n t⟩] = some ⟨PyData.keyHash w.params "_initial_size", .str "_initial_size" t', .int n t⟩ :=
    List.find?_cons_of_pos nm_is
  rw [show (#[(⟨PyData.keyHash w.params "_initial_size", .str "_initial_size" t', .int n t⟩ : DictEntry)] : Array DictEntry).toList = [⟨PyData.keyHash w.params "_initial_size", .str "_initial_size" t', .int n t⟩] from rfl, this]

section
variable {k : Nat} {env : Env} {ρ : Loc} {σ : Sto}
theorem pass_list (self : Value) : refuseLoop self "__setattr__" [.type "list", .type "object"] = pure () := by kernel_rfl

theorem put_few (x : Str) (i : Int) (u v : Value) : ∀ l : List DictEntry, l.length ≤ 1 → (putL x i u v l).length ≤ 2
  | [], _ => by simp [putL]
  | [y], _ => by simp only [putL]; split <;> simp
  | y :: z :: r, h => absurd h (by simp)
theorem osa_ini (C : AccCls X) {prog : Program} {w : World} {A : Around} {R : Result → Shared → Prop} {s : Shared} {a d : Addr} {vs : List Value} {n m : Nat} {tk : Tok} {es : Array DictEntry} {v : Value}
    (K : X.K.In s.heap) (I : InstAt s.heap a (accObj X d vs n) X.accCls (some (dicObj es m))) (hd : s.heap.get? d = some (dicObj es m)) (hes : es.size ≤ 1) (hk : ∀ e ∈ es, e.refKey = false)
    (h : ∀ h', Heap.SameBut d s.heap h' → h'.get? d = some (dictOf (putL "_initial_size" (PyData.keyHash w.params "_initial_size") (.str "_initial_size" s.toks) v es.toList) (putN "_initial_size" es.toList m)) → R (.ok (.ret .none)) { s with heap := h', toks := s.toks + 1 }) :
    codeAny (model prog w) A (.call (.builtin "object.__setattr__") ⟨[.ref a, .str "_initial_size" tk, v], []⟩) R s := by
  have SF := PySem.F.store_object
  obtain ⟨cd, hc, ho⟩ := C.mro
  have sub : Looks (model prog w) s.heap (isInstance (.ref a) (.type "object")) true := I.type.andThen (looks_mroIn K (by unfold mroIn; rw [hc, Option.bind_some, ho]; simp))
  refine codeAny_call_builtin SF.slot.plain SF.entry (@check_slot (model prog w) _ _ s "object.__setattr__" "object" "__setattr__" (.ref a) [.str "_initial_size" tk, v] [] _ SF.kind SF.split sub (SF.args (.ref a) (.str "_initial_size" tk) v) ?_)
  have hm : Looks (model prog w) s.heap (mroOf (.ref X.accCls)) cd.mro := (looks_clsIn K hc).andThen .now
  rw [osa_eq, refuse_eq]
  refine wpAny_bind (wpAny_bind (I.type.here (wpAny_bind (hm.here ?_))))
  rw [ho, refuseLoop_ref, pass_list]
  refine wpAny_pure (wpAny_bind (I.type.here (wpAny_bind ((looks_findIn K C.attr).here (wpAny_bind ?_)))))
  have L3 : Looks (model prog w) s.heap (Builtin.ObjectAttr.storeTaker? none) none := .now
  refine L3.here ?_
  dsimp only
  obtain ⟨cd', hc', hd'⟩ := any_some C.dict
  have hx := I.at_
  refine wpAny_bind (wpAny_pure (wpAny_bind (wpAny_bind (wpAny_loadPart hx (wpAny_bind ((looks_clsIn K hc').here ?_))))))
  rw [hd']
  refine wpAny_pure (a := some d) (wpAny_bind (wpAny_pure (wpAny_bind ?_)))
  unfold nsSet
  refine wpAny_bind (wpAny_bind (wpAny_askSetting (wpAny_pure (wpAny_bind (wpAny_mkText (wpAny_bind (wpAny_loadPart hd ?_)))))))
  dsimp only
  have c : (!es.any (·.key.isStr ("_initial_size" : Str)) && es.any (·.refKey)) = false := by
    have : es.any (·.refKey) = false := by
      rw [Bool.eq_false_iff]; intro q
      obtain ⟨i, hi, hq⟩ := Array.any_eq_true.mp q
      rw [hk _ (Array.getElem_mem hi)] at hq; cases hq
    rw [this, Bool.and_false]
  rw [aRefKeyMayBeTheName_at, c]
  have e' : Obj.putName "_initial_size" (PyData.keyHash w.params "_initial_size") (.str "_initial_size" s.toks) v (dicObj es m) = dictOf (putL "_initial_size" (PyData.keyHash w.params "_initial_size") (.str "_initial_size" s.toks) v es.toList) (putN "_initial_size" es.toList m) :=
    putName_dict "_initial_size" (PyData.keyHash w.params "_initial_size") (.str "_initial_size" s.toks) v es.toList m
  have hz : (putL "_initial_size" (PyData.keyHash w.params "_initial_size") (.str "_initial_size" s.toks) v es.toList).length ≤ 2 := by
    exact put_few _ _ _ _ es.toList (by rw [Array.length_toList]; exact hes)
  have hg := Heap.get?_update_self (h := s.heap) (fun o => Obj.putName "_initial_size" (PyData.keyHash w.params "_initial_size") (.str "_initial_size" s.toks) v o) hd (by rw [e']; rfl)
  refine wpAny_updatePart hd ?_
  refine wpAny_bind (wpAny_lookBehind hg (by rw [e']; exact pastItsLine_dict (by rw [List.size_toArray, sizeLine_eq]; lia)) ?_)
  refine wpAny_pure ?_
  exact h _ (Heap.SameBut.update ..) (hg.trans (congrArg some e'))
theorem ini_put {w : World} {i : Option Int} {n : Int} {es : Array DictEntry} {t t' : Tok} {m : Nat} (h : ini? w i es) :
    ∃ es' m', dictOf (putL "_initial_size" (PyData.keyHash w.params "_initial_size") (.str "_initial_size" t) (.int n t') es.toList) m = dicObj es' m' ∧ ini? w (some n) es' := by
  cases i with
  | none => obtain rfl := h; exact ⟨_, m, rfl, t', t, rfl⟩
  | some j =>
    obtain ⟨t1, t2, rfl⟩ := h
    refine ⟨_, m, rfl, t', t2, ?_⟩
    show (putL _ _ _ _ [_]).toArray = _
    rw [putL, if_pos nm_is]
theorem ini_small {w : World} {i : Option Int} {es : Array DictEntry} (h : ini? w i es) : es.size ≤ 1 ∧ ∀ e ∈ es, e.refKey = false := by
  cases i with
  | none => obtain rfl := h; simp
  | some j => obtain ⟨t1, t2, rfl⟩ := h; simp [DictEntry.refKey]
/-- `o._initial_size = n` -/
theorem T1.iniSet (T : X.Ok) (C : AccCls X) {o e : Expr} {pos pos' : Pos} {Q : Ctl → Loc → Sto → Prop} (hv : plainVal e = true)
    (h : TE X k env e ρ σ fun p σ1 => TE X k env o ρ σ1 fun q σ2 => ∃ n a d xs i, p = .int n ∧ q = .ptr a ∧ σ2 a = some (.acc d xs) ∧ σ2 d = some (.ini i) ∧ Q .next ρ (σ2.set d (some (.ini (some n))))) :
    T1 X k env (.Assign [.Attribute o "_initial_size" pos'] e pos) ρ σ Q := .mk fun A W s aa R F => by
  refine plainObj_wpAny_Assign_Attribute (wpAny_mono (h.run A W s aa R F) (fun v s1 h1 => ?_) fun _ _ e => e) (swaps_plain hv)
  obtain ⟨W1, p, σ1, l1, R1, F1, r1, h1⟩ := h1
  refine wpAny_mono (h1.run A W1 s1 aa R1 F1) (fun v2 s2 h2 => ?_) fun _ _ e => e
  obtain ⟨W2, q, σ2, l2, R2, F2, r2, n, a, d, xs, i, rfl, rfl, ha, hd, hq⟩ := h2
  cases r2
  obtain ⟨t, rfl⟩ := r1
  obtain ⟨vs, m, es, m', hW, hV, e1, z, q, e2, i2, I⟩ := acc_inst R2 ha hd
  refine set_plain (R2.K T) I C.set (osa_ini C (s := { s2 with toks := s2.toks + 1 }) (R2.K T) I e2 (ini_small i2).1 (ini_small i2).2 fun h' hs hg => ?_)
  obtain ⟨es', m'', e3, i3⟩ := ini_put (n := n) (t := s2.toks + 1) (t' := t) (m := putN "_initial_size" es.toList m') i2
  rw [e3] at hg
  obtain ⟨R3, l3⟩ := R2.cellSet T hV hs (c' := .ini (some n)) ⟨es', m'', hg, i3⟩ (s2.toks + 1 + 1)
  exact ⟨_, .next, ρ, _, (l1.trans l2).trans l3, R3, F2.cellSet hV l3 hs, rfl, hq⟩
end
end Mine

end
section
open PySem PySem.W PyProof.Rows
set_option Elab.async false
set_option linter.unusedVariables false
set_option maxRecDepth 100000
set_option maxHeartbeats 1000000
namespace Mine
variable {X : Txt}

/-- a builtin of list's, got through the class -/
structure OwnB (X : Txt) (name : Str) (id n : String) (B : Builtin) : Prop where
  find : findIn X.K (.ref X.accCls) name = some (some (.builtin id))
  kind : builtinKind id = some .slot ∨ builtinKind id = some .method
  split : splitId id = some ("list", n)
  plain : plainId id = true
  entry : entryFor table id = some B
  bind : ∀ self, bindSpecial (.builtin id) self = pure (.builtin id, [self])

theorem AccCls.isList (C : AccCls X) {M : Model} {h : Heap} (K : X.K.In h) : Looks M h (isSubtype (.ref X.accCls) (.type "list")) true := by
  obtain ⟨cd, hc, ho⟩ := C.mro
  exact looks_mroIn K (by unfold mroIn; rw [hc, Option.bind_some, ho]; simp)
theorem own_check (C : AccCls X) {M : Model} {A : Around} {E : Value → Shared → Prop} {s : Shared} {x : Addr} {ox : Obj} {name : Str} {id n : String} {B : Builtin} {rest : List Value} {Q : Unit → Shared → Prop} (O : OwnB X name id n B)
    (K : X.K.In s.heap) (hx : s.heap.get? x = some ox) (hc : ox.cls = .ref X.accCls) (ha : argsOk id ⟨.ref x :: rest, []⟩) (q : Q () s) : wpAny M A (checkBuiltinCall id ⟨.ref x :: rest, []⟩) Q E s := by
  have ty : Looks M s.heap (typeOf (.ref x)) (.ref X.accCls) := hc ▸ (Looks.ld hx).andThen .now
  have inst : Looks M s.heap (isInstance (.ref x) (.type "list")) true := ty.andThen (C.isList K)
  have hs := O.split
  rcases O.kind with hk | hk
  · exact check_slot hk hs inst ha q
  · simp only [checkBuiltinCall, hk, hs]
    refine wpAny_bind (inst.here ?_)
    simp only [Bool.not_true, Bool.false_eq_true, if_false]
    cases hsig : Manifest.signature? id with
    | none => exact wpAny_pure q
    | some sig =>
      simp only [argsOk, hsig] at ha
      have h2 : Bind.checkArgs id sig ⟨.ref x :: rest, []⟩ = pure () := ha
      show wpAny M A (Bind.checkArgs id sig ⟨.ref x :: rest, []⟩) Q E s
      rw [h2]; exact wpAny_pure q
section
variable {A : Around} {E : Value → Shared → Prop} {s : Shared} {x : Addr} {ox : Obj} {name : Str} {id n : String} {B : Builtin}
theorem own_call (C : AccCls X) {rest : List Value} {Q : Value → Shared → Prop} (O : OwnB X name id n B) (K : X.K.In s.heap) (hx : s.heap.get? x = some ox) (hc : ox.cls = .ref X.accCls) (ha : argsOk id ⟨.ref x :: rest, []⟩)
    (h : wpAny X.M A.in1 (B ⟨.ref x :: rest, []⟩) (fun fin s' => ∃ v, fin = .done (.ret v) ∧ Q v s') E s) : wpAny X.M A (call (.builtin id) (.ref x :: rest)) Q E s := by
  refine wpAny_call (codeAny_call_builtin O.plain O.entry (own_check C O K hx hc ha (wpAny_mono h (fun fin s' h' => ?_) fun _ _ e => e)))
  obtain ⟨v, rfl, hv⟩ := h'; exact hv
theorem own_special (C : AccCls X) {rest : List Value} {Q : Option Value → Shared → Prop} (O : OwnB X name id n B) (K : X.K.In s.heap) (hx : s.heap.get? x = some ox) (hc : ox.cls = .ref X.accCls)
    (h : wpAny X.M A (call (.builtin id) (.ref x :: rest)) (fun v => Q (some v)) E s) : wpAny X.M A (callSpecial? (.ref x) name rest) Q E s := by
  have ty : Looks X.M s.heap (typeOf (.ref x)) (.ref X.accCls) := hc ▸ (Looks.ld hx).andThen .now
  unfold callSpecial? specialOf
  refine wpAny_bind (wpAny_bind (ty.here ((looks_findIn K O.find).here ?_)))
  dsimp only
  rw [O.bind]
  exact wpAny_holding (wpAny_bind (wpAny_pure (wpAny_bind (wpAny_mono h (fun v s' h' => wpAny_pure h') fun _ _ e => e))))
theorem own_key (C : AccCls X) {k : Value} {name : Str} {Q : Value → Shared → Prop} (K : X.K.In s.heap) (hq : noSeq X.K X.accCls = true) (hx : s.heap.get? x = some ox) (hc : ox.cls = .ref X.accCls) (h : Q k s) : wpAny X.M A (sequenceKey (.ref x) k name) Q E s := by
  have ty : Looks X.M s.heap (typeOf (.ref x)) (.ref X.accCls) := hc ▸ (Looks.ld hx).andThen .now
  unfold sequenceKey
  refine wpAny_bind (ty.here ?_)
  refine wpAny_bind ((anyM_none K hq).here ?_)
  rw [if_pos (show (!false) = true from rfl)]
  exact wpAny_pure h
theorem own_getItem (C : AccCls X) {i : Value} {Q : Value → Shared → Prop} (O : OwnB X "__getitem__" id n B) (hq : noSeq X.K X.accCls = true) (K : X.K.In s.heap) (hx : s.heap.get? x = some ox) (hc : ox.cls = .ref X.accCls)
    (h : wpAny X.M A (call (.builtin id) [.ref x, i]) Q E s) : wpAny X.M A (getItem (.ref x) i) Q E s := by
  unfold getItem
  try with_reducible refine wpAny_holding ?_
  refine wpAny_bind (own_key C K hq hx hc ?_)
  exact wpAny_bind (own_special C O K hx hc (wpAny_mono h (fun v s' h' => wpAny_pure h') fun _ _ e => e))
theorem own_setItem (C : AccCls X) {i v : Value} {Q : Unit → Shared → Prop} (O : OwnB X "__setitem__" id n B) (hq : noSeq X.K X.accCls = true) (K : X.K.In s.heap) (hx : s.heap.get? x = some ox) (hc : ox.cls = .ref X.accCls)
    (h : wpAny X.M A (call (.builtin id) [.ref x, i, v]) (fun _ => Q ()) E s) : wpAny X.M A (setItem (.ref x) i v) Q E s := by
  unfold setItem
  try with_reducible refine wpAny_holding ?_
  refine wpAny_bind (own_key C K hq hx hc ?_)
  exact wpAny_bind (own_special C O K hx hc (wpAny_mono h (fun v s' h' => wpAny_pure h') fun _ _ e => e))
theorem own_tail (C : AccCls X) {v sl : Expr} {i : Value} {Q : Value → Shared → Prop} (O : OwnB X "__getitem__" id n B) (K : X.K.In s.heap) (hx : s.heap.get? x = some ox) (hc : ox.cls = .ref X.accCls)
    (h : wpAny X.M A (getItem (.ref x) i) Q E s) : wpAny X.M A (subscriptTail v sl (.ref x) i) Q E s := by
  have ty : Looks X.M s.heap (typeOf (.ref x)) (.ref X.accCls) := hc ▸ (Looks.ld hx).andThen .now
  unfold subscriptTail
  refine wpAny_bind ?_
  unfold getitemInPython specialOf
  refine wpAny_bind (wpAny_bind (ty.here ((looks_findIn K O.find).here ?_)))
  refine wpAny_pure ?_
  have fin : wpAny X.M A (subscripted sl false (.ref x) i) (fun r s₃ => wpAny X.M A (letTemporaryGo v (.ref x) r >>= fun _ => pure r) Q E s₃) E s :=
    subscripted_ok (wpAny_mono h (fun r s₃ h₃ => wpAny_bind (wpAny_letTemporaryGo (wpAny_pure h₃))) fun _ _ x => x)
  exact wpAny_bind fin
end
end Mine

end
section
open PySem PySem.W PyProof.Rows
set_option Elab.async false
set_option linter.unusedVariables false
set_option maxRecDepth 100000
set_option maxHeartbeats 1000000
namespace Mine
variable {X : Txt}
theorem mapSeq_at (f : Array Value → Array Value) (C : Value) (dd : Option Addr) (items : Array Value) (n : Nat) : ∃ n', Obj.mapSeq f ({ cls := C, dict := dd, data := .seq items n } : Obj) = { cls := C, dict := dd, data := .seq (f items) n' } :=
  ⟨_, rfl⟩
section
variable {prog : Program} {w : World} {A : Around} {E : Value → Shared → Prop} {s : Shared}
theorem body_append {l : Addr} {C : Value} {dd : Option Addr} {items : Array Value} {n : Nat} {x : Value} {Q : PySem.Fin → Shared → Prop} (ho : s.heap.get? l = some { cls := C, dict := dd, data := .seq items n })
    (hQ : ∀ h', h'.get? l = some { cls := C, dict := dd, data := .seq (items.push x) (n + 1) } → Heap.SameBut l s.heap h' → Q (.done (.ret .none)) { s with heap := h' }) (hsz : items.size ≤ sizeLine) :
    wpAny (model prog w) A (Builtin.«list.append» ⟨[.ref l, x], []⟩) Q E s := by
  show wpAny _ _ (updateSeq l (·.push x) >>= fun _ => ret .none) _ _ s
  refine wpAny_bind ?_
  have e : Obj.mapSeq (·.push x) ({ cls := C, dict := dd, data := .seq items n } : Obj) = { cls := C, dict := dd, data := .seq (items.push x) (n + 1) } := by
    simp [Obj.mapSeq]
  refine wpAny_updateSeq ho rfl (wpAny_pure (hQ _ ?_ (Heap.SameBut.update ..))) hsz (by simp; omega)
  exact (Heap.get?_update_self _ ho (by rw [e]; rfl)).trans (congrArg some e)
theorem body_slice {l sl : Addr} {C : Value} {dd : Option Addr} {items : Array Value} {n : Nat} {vl vu vs : Value} {lo hi st : Option Int} {Q : PySem.Fin → Shared → Prop} (ho : s.heap.get? l = some { cls := C, dict := dd, data := .seq items n })
    (hs : s.heap.IsSliceOf sl vl vu vs) (pl : IsPart vl lo) (pu : IsPart vu hi) (ps : IsPart vs st) (h0 : st ≠ some 0) (hsz : items.size ≤ sizeLine)
    (h : Q (.done (.ret (.ref s.heap.objs.size))) { s with heap := s.heap.push { cls := .type "list", data := .seq (slicePick items lo hi st) } }) :
    wpAny (model prog w) A (Builtin.«list.__getitem__» ⟨[.ref l, .ref sl], []⟩) Q E s := by
  obtain ⟨os, hos, hcs, hds⟩ := id hs
  have hTs : s.TypeIs (.ref sl) "slice" := ⟨os, hos, hcs⟩
  show wpAny _ _ (Builtin.List.listSubscript? (.ref sl) >>= _) _ _ s
  refine wpAny_bind ?_
  unfold Builtin.List.listSubscript?
  refine wpAny_bind (wpAny_specialOf hTs slice_no_index ?_)
  simp only [Option.isNone_none, if_true]
  refine wpAny_pure ?_
  show wpAny _ _ (typeOf (.ref sl) >>= _) _ _ s
  refine wpAny_bind (wpAny_typeOf hTs ?_)
  rw [if_neg (by decide)]
  rw [listSliceParts_eq]
  have hstep : ¬ ((rawPart st == rawInt 0) = true) := by
    cases st with
    | none => exact Bool.false_ne_true
    | some c =>
      intro hh
      have : c = 0 := by simpa [rawPart, rawInt] using hh
      exact h0 (by rw [this])
  refine wpAny_bind (wpAny_bind (wpAny_field hos hds (x := vs) rfl (wpAny_bind (wpAny_listPart ps ?_))))
  rw [if_neg hstep]
  refine wpAny_bind (wpAny_field hos hds (x := vl) rfl (wpAny_bind (wpAny_listPart pl ?_)))
  refine wpAny_bind (wpAny_field hos hds (x := vu) rfl (wpAny_bind (wpAny_listPart pu (wpAny_pure ?_))))
  refine wpAny_bind (m := Builtin.List.listItems (.ref l)) ?_
  unfold Builtin.List.listItems
  refine wpAny_bind (wpAny_seqItems ho rfl (wpAny_pure ?_))
  refine wpAny_bind (wpAny_of_eq (sliceIndices_raw lo hi st items.size h0) ?_)
  exact wpAny_bind (wpAny_newObj_type (wpAny_pure h) (Nat.le_trans (slicePick_size_le items lo hi st) hsz))
theorem part_none_step : (rawPart none == rawInt 0) = false := rfl
theorem body_setSlice {l sl y : Addr} {C : Value} {dd dy : Option Addr} {items new : Array Value} {n m : Nat} {vl vu vs : Value} {lo hi : Option Int} {Q : PySem.Fin → Shared → Prop} (ho : s.heap.get? l = some { cls := C, dict := dd, data := .seq items n })
    (hs : s.heap.IsSliceOf sl vl vu vs) (pl : IsPart vl lo) (pu : IsPart vu hi) (ps : IsPart vs none) (hy : s.heap.get? y = some { cls := .type "list", dict := dy, data := .seq new m }) (hne : l ≠ y) (hsz : items.size + new.size ≤ sizeLine) (hst : (sliceBounds lo hi none items.size).2.2 = 1)
    (hle : (items.extract 0 (sliceBounds lo hi none items.size).1.toNat ++ new ++ items.extract (max (sliceBounds lo hi none items.size).1 (sliceBounds lo hi none items.size).2.1).toNat items.size).size ≤ sizeLine)
    (h : ∀ h' n', h'.get? l = some { cls := C, dict := dd, data := .seq (items.extract 0 (sliceBounds lo hi none items.size).1.toNat ++ new ++ items.extract (max (sliceBounds lo hi none items.size).1 (sliceBounds lo hi none items.size).2.1).toNat items.size) n' } →
      Heap.SameBut l s.heap h' → Q (.done (.ret .none)) { s with heap := h' }) :
    wpAny (model prog w) A (Builtin.«list.__setitem__» ⟨[.ref l, .ref sl, .ref y], []⟩) Q E s := by
  obtain ⟨os, hos, hcs, hds⟩ := id hs
  have hTs : s.TypeIs (.ref sl) "slice" := ⟨os, hos, hcs⟩
  have hTy : s.TypeIs (.ref y) "list" := ⟨_, hy, rfl⟩
  show wpAny _ _ (Builtin.List.listSubscript? (.ref sl) >>= _) _ _ s
  refine wpAny_bind ?_
  unfold Builtin.List.listSubscript?
  refine wpAny_bind (wpAny_specialOf hTs slice_no_index ?_)
  simp only [Option.isNone_none, if_true]
  refine wpAny_pure ?_
  show wpAny _ _ (typeOf (.ref sl) >>= _) _ _ s
  refine wpAny_bind (wpAny_typeOf hTs ?_)
  rw [if_neg (by decide)]
  rw [listSliceParts_eq]
  refine wpAny_bind (wpAny_bind (wpAny_field hos hds (x := vs) rfl (wpAny_bind (wpAny_listPart ps ?_))))
  rw [if_neg (by rw [part_none_step]; decide)]
  refine wpAny_bind (wpAny_field hos hds (x := vl) rfl (wpAny_bind (wpAny_listPart pl ?_)))
  refine wpAny_bind (wpAny_field hos hds (x := vu) rfl (wpAny_bind (wpAny_listPart pu (wpAny_pure ?_))))
  have hr : Builtin.List.listSameRef (.ref l) (.ref y) = false := by simp [Builtin.List.listSameRef, hne]
  simp only [hr, Bool.false_eq_true, if_false]
  have all : ∀ {K : Array Value → Shared → Prop}, K new s → wpAny (model prog w) A (Builtin.List.listAllItems (.ref y) "must assign iterable to extended slice") K E s := by
    intro K hK
    unfold Builtin.List.listAllItems
    refine wpAny_bind (wpAny_typeOf hTy ?_)
    simp only [beq_self_eq_true, Bool.true_or, if_true]
    unfold Builtin.List.listItems
    exact wpAny_bind (wpAny_seqItems hy rfl (wpAny_pure hK))
  refine wpAny_bind (all ?_)
  refine wpAny_bind (m := Builtin.List.listItems (.ref l)) ?_
  unfold Builtin.List.listItems
  refine wpAny_bind (wpAny_seqItems ho rfl (wpAny_pure ?_))
  refine wpAny_bind (wpAny_of_eq (sliceIndices_raw lo hi none items.size (by simp)) ?_)
  have hl : Builtin.List.listTooLong (items.size + new.size) = false := by unfold Builtin.List.listTooLong; simp; omega
  generalize hb : sliceBounds lo hi none items.size = b at hst hle h ⊢
  obtain ⟨b1, b2, b3⟩ := b
  dsimp only at hst hle h ⊢
  subst hst
  simp only [beq_self_eq_true, if_true, hl, Bool.false_eq_true, if_false]
  refine wpAny_bind (wpAny_rule ?_)
  unfold Builtin.List.listUpdate
  obtain ⟨n', e⟩ := mapSeq_at (fun xs : Array Value => xs.extract 0 b1.toNat ++ new ++ xs.extract (max b1 b2).toNat xs.size) C dd items n
  refine wpAny_bind (wpAny_updateSeq ho rfl ?_ (by omega) (Nat.le_succ_of_le hle))
  refine wpAny_bind (wpAny_letGo (wpAny_pure ?_))
  exact h _ n' ((Heap.get?_update_self _ ho (by rw [e]; rfl)).trans (congrArg some e)) (Heap.SameBut.update ..)
theorem body_iter {l : Addr} {Q : PySem.Fin → Shared → Prop} (h : Q (.done (.ret (.ref s.heap.objs.size))) { s with heap := s.heap.push { cls := .type "list_iterator", data := .fields #[.ref l, .int 0 0] } }) :
    wpAny (model prog w) A (Builtin.«list.__iter__» ⟨[.ref l], []⟩) Q E s := by
  unfold Builtin.«list.__iter__» newFields
  repeat (first | (with_reducible refine wpAny_newObj_type ?_ (by size_fits)) | wp_step)
  exact h
theorem body_init {l : Addr} {C : Value} {dd : Option Addr} {n : Nat} {Q : PySem.Fin → Shared → Prop} (ho : s.heap.get? l = some { cls := C, dict := dd, data := .seq #[] n })
    (hQ : ∀ h' n', h'.get? l = some { cls := C, dict := dd, data := .seq #[] n' } → Heap.SameBut l s.heap h' → Q (.done (.ret .none)) { s with heap := h' }) :
    wpAny (model prog w) A (Builtin.«list.__init__» ⟨[.ref l], []⟩) Q E s := by
  show wpAny _ _ (Builtin.List.listItems (.ref l) >>= _) _ _ s
  refine wpAny_bind ?_
  unfold Builtin.List.listItems
  refine wpAny_bind (wpAny_seqItems ho rfl (wpAny_pure ?_))
  unfold Builtin.List.listUpdate
  obtain ⟨n', e⟩ := mapSeq_at (fun _ : Array Value => #[]) C dd #[] n
  refine wpAny_bind (wpAny_updateSeq ho rfl ?_ (by simp) (by simp))
  refine wpAny_bind (wpAny_letGo (wpAny_pure ?_))
  exact hQ _ n' ((Heap.get?_update_self _ ho (by rw [e]; rfl)).trans (congrArg some e)) (Heap.SameBut.update ..)
end
end Mine

end
section
open PySem PySem.W PyProof.Rows
set_option Elab.async false
set_option linter.unusedVariables false
set_option maxRecDepth 100000
set_option maxHeartbeats 1000000
namespace Mine
variable {X : Txt}

structure AccB (X : Txt) : Prop extends AccCls X where
  seq : noSeq X.K X.accCls = true
  append : OwnB X "append" "list.append" "append" Builtin.«list.append»
  getitem : OwnB X "__getitem__" "list.__getitem__" "__getitem__" Builtin.«list.__getitem__»
  setitem : OwnB X "__setitem__" "list.__setitem__" "__setitem__" Builtin.«list.__setitem__»
  iter : OwnB X "__iter__" "list.__iter__" "__iter__" Builtin.«list.__iter__»
  getattr : OwnB X "__getattribute__" "list.__getattribute__" "__getattribute__" Builtin.«object.__getattribute__»

section
variable {k : Nat} {env : Env} {ρ : Loc} {σ : Sto}
theorem TOp.appendA (T : X.Ok) (C : AccB X) {a d : Addr} {p : PV} {xs : List PV} {Q : PV → Sto → Prop} (hs : σ a = some (.acc d xs)) (hl : xs.length + 1 ≤ sizeLine) (h : Q .none (σ.set a (some (.acc d (xs ++ [p]))))) :
    TOp X k (fun vs => PySem.call (.builtin "list.append") vs) [.ptr a, p] σ Q := .mk fun A W s vs aa R rs => by
  obtain ⟨v1, _, rfl, rfl, v2, _, rfl, r2, rfl⟩ := rs
  have hW := (R.cel a _).mp hs
  obtain ⟨us, n, ho, z, q⟩ := R.at' hW
  refine own_call C.toAccCls C.append (R.K T) ho rfl (args_list_append _ _) (body_append ho (fun h' ho' hs' => ?_) (by rw [List.size_toArray]; exact z))
  have e : us.toArray.push v2 = (us ++ [v2]).toArray := by simp
  rw [e] at ho'
  have lf : ∀ b o, W b = .fro o → W.set a (.cel (.acc d (xs ++ [p]))) b = .fro o := fun b o e => by rw [Map.set_ne (by first | exact nq e (hW) rfl | exact Ne.symm (nq e (hW) rfl) | (rintro rfl; rw [hW] at e; cases e))]; exact e
  have hq := q.length
  obtain ⟨R', l'⟩ := R.cellSet T hW hs' (c' := .acc d (xs ++ [p])) ⟨_, _, ho', by simp; lia, VRels.append (VRels.mono lf _ _ q) ⟨v2, [], rfl, VRel.mono lf _ _ r2, rfl⟩⟩ s.toks
  exact ⟨_, rfl, _, .none, _, l', R', rfl, h⟩
theorem TOp.sliceA (T : X.Ok) (C : AccB X) {v sl : Expr} {xs : List PV} {d dd : Addr} {a b c : PV} {lo hi st : Option Int} {Q : PV → Sto → Prop} (hd : σ d = some (.acc dd xs)) (ha : Part a lo) (hb : Part b hi) (hc : Part c st) (h0 : st ≠ some 0) (h : Q (.lst (pickP xs lo hi st)) σ) :
    TOp X k (op2 (subscriptTail v sl)) [.ptr d, .slc a b c] σ Q := .mk fun A W s vs aa R rs => by
  obtain ⟨v1, _, rfl, rfl, v2, _, rfl, ⟨r, va, vb, vc, rfl, hr, ra, rb, rc⟩, rfl⟩ := rs
  obtain ⟨us, n, ho, z, q⟩ := R.at' ((R.cel d _).mp hd)
  refine own_tail C.toAccCls C.getitem (R.K T) ho rfl (own_getItem C.toAccCls C.getitem C.seq (R.K T) ho rfl (own_call C.toAccCls C.getitem (R.K T) ho rfl (args_list_getitem _ _)
    (body_slice ho ⟨_, R.fro hr, rfl, rfl⟩ (ha.is ra) (hb.is rb) (hc.is rc) h0 (by rw [List.size_toArray]; exact z) ⟨_, rfl, ?_⟩)))
  have e : ({ cls := .type "list", data := .seq (slicePick us.toArray lo hi st) } : Obj) = lstObj (slicePick us.toArray lo hi st).toList 0 := by simp [lstObj]
  rw [e]
  have l2 := R.le_set (.fro (lstObj (slicePick us.toArray lo hi st).toList 0))
  refine ⟨_, .lst (pickP xs lo hi st), σ, l2, R.pushFro T rfl s.toks, ⟨_, _, 0, rfl, Map.set_self .., ?_, (pick_rel q lo hi st).le l2⟩, h⟩
  have := slicePick_size_le us.toArray lo hi st
  simp only [List.size_toArray] at this
  simp only [Array.length_toList]; lia
/-- what a slice store leaves -/
noncomputable def cutP (xs ys : List PV) (lo hi : Option Int) : List PV :=
  xs.take (sliceBounds lo hi none xs.length).1.toNat ++ ys ++ xs.drop (max (sliceBounds lo hi none xs.length).1 (sliceBounds lo hi none xs.length).2.1).toNat
theorem extract_cut (us new : List Value) (i j : Nat) : us.toArray.extract 0 i ++ new.toArray ++ us.toArray.extract j us.toArray.size = (us.take i ++ new ++ us.drop j).toArray := by
  simp [List.take_of_length_le]
/-- a slice of an own list is set to a list -/
theorem TAsg.sliceA (T : X.Ok) (C : AccB X) {o : Expr} {lo hi : Option Int} {pos : Pos} {sl : Expr} {ys : List PV} {Q : Loc → Sto → Prop}
    (h : TE X k env o ρ σ fun q σ1 => TE X k env sl ρ σ1 fun i σ2 => ∃ a d xs x y, q = .ptr a ∧ i = .slc x y .none ∧ Part x lo ∧ Part y hi ∧ σ2 a = some (.acc d xs) ∧ xs.length + ys.length ≤ sizeLine ∧ (sliceBounds lo hi none xs.length).2.2 = 1 ∧
      (cutP xs ys lo hi).length ≤ sizeLine ∧ Q ρ (σ2.set a (some (.acc d (cutP xs ys lo hi))))) : TAsg X k env (.Subscript o sl pos) (.lst ys) ρ σ Q := .mk fun A W s v aa R F r => by
  rw [arm_assign_Subscript]
  refine wpAny_bind (wpAny_holding (wpAny_mono (h.run A W s aa R F) (fun v1 s1 h1 => ?_) fun _ _ e => e))
  obtain ⟨W1, p1, σ1, l1, R1, F1, r1, h1⟩ := h1
  refine wpAny_bind (wpAny_holding (wpAny_mono (h1.run A W1 s1 aa R1 F1) (fun v2 s2 h2 => ?_) fun _ _ e => e))
  obtain ⟨W2, p2, σ2, l2, R2, F2, r2, a, d, xs, x, y, rfl, rfl, px, py, ha, hl, hst, hle, hq⟩ := h2
  cases r1
  obtain ⟨rr, va, vb, vc, rfl, hr, ra, rb, rc⟩ := r2
  obtain ⟨b, ws, m, rfl, hb, zb, qb⟩ := (r.le l1).le l2
  have hW := (R2.cel a _).mp ha
  obtain ⟨us, n, ho, z, q⟩ := R2.at' hW
  have hbo := R2.fro hb
  have hne : a ≠ b := by rintro rfl; rw [hW] at hb; cases hb
  have hlx := q.length
  have hly := qb.length
  have hcut : (us.take (sliceBounds lo hi none us.length).1.toNat ++ ws ++ us.drop (max (sliceBounds lo hi none us.length).1 (sliceBounds lo hi none us.length).2.1).toNat).length = (cutP xs ys lo hi).length := by
    unfold cutP; simp only [List.length_append, List.length_take, List.length_drop, hlx, hly]
  refine wpAny_bind (wpAny_standAt (wpAny_bind (wpAny_holding (own_setItem C.toAccCls C.setitem C.seq (R2.K T) ho rfl (own_call C.toAccCls C.setitem (R2.K T) ho rfl (args_list_setitem _ _ _)
    (body_setSlice (new := ws.toArray) ho ⟨_, R2.fro hr, rfl, rfl⟩ (px.is ra) (py.is rb) (by cases rc; exact .none) hbo hne (by simp only [List.size_toArray]; lia) (by simp only [List.size_toArray, hlx]; exact hst) ?_ fun h' n' ho' hs' => ⟨_, rfl, ?_⟩))))))
  · have := extract_cut us ws (sliceBounds lo hi none us.length).1.toNat (max (sliceBounds lo hi none us.length).1 (sliceBounds lo hi none us.length).2.1).toNat
    simp only [List.size_toArray] at this ⊢
    rw [this, List.size_toArray, hcut]; exact hle
  · have := extract_cut us ws (sliceBounds lo hi none us.length).1.toNat (max (sliceBounds lo hi none us.length).1 (sliceBounds lo hi none us.length).2.1).toNat
    simp only [List.size_toArray] at this ho'
    rw [this] at ho'
    have lf : ∀ b o, W2 b = .fro o → W2.set a (.cel (.acc d (cutP xs ys lo hi))) b = .fro o := fun b o e => by rw [Map.set_ne (by first | exact nq e (hW) rfl | exact Ne.symm (nq e (hW) rfl) | (rintro rfl; rw [hW] at e; cases e))]; exact e
    have rel : VRels (W2.set a (.cel (.acc d (cutP xs ys lo hi)))) (cutP xs ys lo hi) (us.take (sliceBounds lo hi none us.length).1.toNat ++ ws ++ us.drop (max (sliceBounds lo hi none us.length).1 (sliceBounds lo hi none us.length).2.1).toNat) := by
      generalize W2.set a (.cel (.acc d (cutP xs ys lo hi))) = W3 at lf ⊢
      unfold cutP; rw [← hlx]
      exact VRels.append (VRels.append (VRels.mono lf _ _ (q.take _)) (VRels.mono lf _ _ qb)) (VRels.mono lf _ _ (q.drop _))
    obtain ⟨R', l'⟩ := R2.cellSet T hW hs' (c' := .acc d (cutP xs ys lo hi)) ⟨_, n', ho', by rw [hcut]; exact hle, rel⟩ s2.toks
    exact wpAny_release ⟨_, ρ, _, (l1.trans l2).trans l', R', F2.cellSet hW l' hs', hq⟩
end
end Mine

end
section
open PySem PySem.W PyProof.Rows
set_option Elab.async false
set_option linter.unusedVariables false
set_option maxRecDepth 100000
set_option maxHeartbeats 1000000
namespace Mine
variable {X : Txt}
section
variable {prog : Program} {w : World} {A : Around} {E : Value → Shared → Prop} {s : Shared} {env : Env}
/-- a call of an attribute, however it is looked up -/
theorem methCall {o : Expr} {name : Str} {apos pos : Pos} {args : List Expr} {Q : Value → Shared → Prop}
    (hbase : attributeBase o name env (eval o env) = eval o env) (hn : noStar args = true) (hl : args.length < 20) (hline : (apos.endLine == pos.line) = true)
    (h : wpAny (model prog w) A (eval o env) (fun ov s₁ => ∀ pl, wpAny (model prog w) A (getMethod ov name pl) (fun fx s₂ => wpAny (model prog w) A (callWith pos fx.1 fx.2 (backTo pos (starEach args env)) []) Q E s₂) E s₁) E s) :
    wpAny (model prog w) A (eval (.Call (.Attribute o name apos) args [] pos) env) Q E s := by
  have hfew := fewArgs (env := env) (pos := pos) hn hl
  rw [arm_eval_Call, hbase]
  refine wpAny_bind (wpAny_mono h (fun ov s₁ h₁ => ?_) fun _ _ e => e)
  refine wpAny_bind (wpAny_standAt ?_)
  have hform : methodCallForm (args.length + ([] : List Keyword).length) (backTo pos (starEach args env)) (backToKw pos (keywordEach [] env)) = true := hfew
  have hpos : methodCallPos true o env apos pos = pure pos := by unfold methodCallPos; simp [hline]
  unfold methodCall
  rw [hform]
  refine wpAny_bind (wpAny_holding (wpAny_mono (h₁ _) (fun fx s₂ h₂ => ?_) fun _ _ e => e))
  obtain ⟨f, first⟩ := fx
  exact wpAny_bind (wpAny_of_eq hpos h₂)
/-- a builtin method of list's, looked up through the class -/
theorem method_bi {K : Frag} {x C : Addr} {ox : Obj} {od : Option Obj} {name : Str} {id : String} {pl : Sem Bool} {Q : Value × List Value → Shared → Prop} (X : K.In s.heap) (I : W.InstAt s.heap x ox C od)
    (hga : findIn K (.ref C) "__getattribute__" = some (some (.builtin "list.__getattribute__"))) (hk : findIn K (.ref C) "__getattr__" = some none)
    (hf : findIn K (.ref C) name = some (some (.builtin id))) (ht : typeOf (.builtin id) = pure (.type "method_descriptor")) (hs : shadowIn od name = some false) (h : Q (.builtin id, [.ref x]) s) :
    wpAny (model prog w) A (getMethod (.ref x) name pl) Q E s := by
  have hcan := PySem.canon_list_getattribute
  unfold getMethod specialOf
  refine wpAny_bind (wpAny_bind (I.type.here ((looks_findIn X hga).here ?_)))
  dsimp only
  rw [hcan, if_neg (by decide)]
  refine wpAny_bind (wpAny_bind (I.type.here ((looks_findIn X hk).here ?_)))
  refine wpAny_bind (wpAny_bind (I.type.here ((looks_findIn X hf).here (wpAny_bind ?_))))
  rw [ht]
  refine wpAny_pure ?_
  rw [if_neg (by decide +kernel)]
  refine wpAny_bind (wpAny_loadPart I.at_ ?_)
  have hd := I.dict
  cases e : ox.dict with
  | none => exact wpAny_bind (wpAny_rule (wpAny_pure h))
  | some dx =>
    cases od with
    | none => rw [e] at hd; exact hd.elim
    | some o =>
      rw [e] at hd
      obtain ⟨r, a, b⟩ := Option.map_eq_some_iff.mp hs
      refine wpAny_bind (wpAny_bind (wpAny_loadPart hd ?_))
      rw [nsLook_of a]
      refine wpAny_pure ?_
      rw [b]
      exact wpAny_bind (wpAny_rule (wpAny_pure h))
/-- a def of the class -/
theorem method_fL {K : Frag} {x C : Addr} {ox : Obj} {od : Option Obj} {name : Str} {f : Addr} {pl : Sem Bool} {Q : Value × List Value → Shared → Prop} (X : K.In s.heap) (I : W.InstAt s.heap x ox C od)
    (hga : findIn K (.ref C) "__getattribute__" = some (some (.builtin "list.__getattribute__"))) (hk : findIn K (.ref C) "__getattr__" = some none)
    (hf : findIn K (.ref C) name = some (some (.ref f))) (ht : typeIn K (.ref f) = some (.type "function")) (hs : shadowIn od name = some false) (h : Q (.ref f, [.ref x]) s) :
    wpAny (model prog w) A (getMethod (.ref x) name pl) Q E s := by
  have hcan := PySem.canon_list_getattribute
  unfold getMethod specialOf
  refine wpAny_bind (wpAny_bind (I.type.here ((looks_findIn X hga).here ?_)))
  dsimp only
  rw [hcan, if_neg (by decide)]
  refine wpAny_bind (wpAny_bind (I.type.here ((looks_findIn X hk).here ?_)))
  refine wpAny_bind (wpAny_bind (I.type.here ((looks_findIn X hf).here (wpAny_bind ((looks_typeIn X ht).here ?_)))))
  rw [if_neg (by decide +kernel)]
  refine wpAny_bind (wpAny_loadPart I.at_ ?_)
  have hd := I.dict
  cases e : ox.dict with
  | none => exact wpAny_bind (wpAny_rule (wpAny_pure h))
  | some dx =>
    cases od with
    | none => rw [e] at hd; exact hd.elim
    | some o =>
      rw [e] at hd
      obtain ⟨r, a, b⟩ := Option.map_eq_some_iff.mp hs
      refine wpAny_bind (wpAny_bind (wpAny_loadPart hd ?_))
      rw [nsLook_of a]
      refine wpAny_pure ?_
      rw [b]
      exact wpAny_bind (wpAny_rule (wpAny_pure h))
end
theorem ini_shadow {w : World} {i : Option Int} {es : Array DictEntry} {m : Nat} {name : Str} (h : ini? w i es) (hn : (("_initial_size" : Str) == name) = false) : shadowIn (some (dicObj es m)) name = some false := by
  have hk : ∀ t, (Value.str ("_initial_size" : Str) t).isStr name = false := fun t => hn
  cases i with
  | none => obtain rfl := h; rfl
  | some j =>
    obtain ⟨t1, t2, rfl⟩ := h
    unfold shadowIn lookIn dicObj
    simp [hk, DictEntry.refKey]
section
variable {k : Nat} {env : Env} {ρ : Loc} {σ : Sto}
/-- a method of the class, called on an instance -/
inductive kOwn (X : Txt) (k : Nat) (env : Env) (fv : Value) (args : List Expr) (ρ : Loc) (Q : PV → Sto → Prop) (p : PV) (σ : Sto) : Prop
  | mk (a d : Addr) (xs : List PV) (i : Option Int) (e : p = .ptr a) (h1 : σ a = some (.acc d xs)) (h2 : σ d = some (.ini i)) (h : TEs X k env args ρ σ (kMeth2 X k fv Q (.ptr a)))
theorem TE.own (T : X.Ok) (C : AccB X) {o : Expr} {name : Str} {apos pos : Pos} {args : List Expr} {f : Addr} {Q : PV → Sto → Prop}
    (hf : findIn X.K (.ref X.accCls) name = some (some (.ref f))) (ht : isFn X.K (.ref f) = true) (hkeep : plainKeep X (.ref f) = true) (hne : (("_initial_size" : Str) == name) = false)
    (hbase : attributeBase o name env (eval o env) = eval o env) (hn : noStar args = true) (hl : Nat.blt args.length 20 = true) (hline : (apos.endLine == pos.line) = true)
    (h : TE X k env o ρ σ (kOwn X k env (.ref f) args ρ Q)) :
    TE X k env (.Call (.Attribute o name apos) args [] pos) ρ σ Q := .mk fun A W s aa R F => by
  have hl' : args.length < 20 := by simpa using hl
  refine methCall hbase hn hl' hline (wpAny_mono (h.run A W s aa R F) (fun v s1 h1 => ?_) fun _ _ e => e)
  obtain ⟨W1, p, σ1, l1, R1, F1, r1, a, d, xs, i, rfl, ha, hd, h1⟩ := h1
  cases r1
  obtain ⟨vs, m, es, m', hW, hV, e1, z, q, e2, i2, I⟩ := acc_inst R1 ha hd
  intro pl
  refine method_fL (R1.K T) I C.get C.getx hf (beq_iff_eq.mp ht) (ini_shadow i2 hne) ?_
  refine callWith_ok T (first := [.ref a]) hkeep hn h1 aa R1 F1 fun vs s2 h2 => ?_
  obtain ⟨W2, ps, σ2, l2, R2, F2, r2, h2⟩ := h2
  exact wpAny_mono (lift T h2 aa R2 F2 (vs := .ref a :: vs) ⟨.ref a, _, rfl, rfl, r2⟩) (fun _ _ q => (q.le l2).le l1) fun _ _ e => e
/-- a builtin method of list's, called on an instance -/
theorem TE.ownB (T : X.Ok) (C : AccB X) {o : Expr} {name : Str} {apos pos : Pos} {args : List Expr} {id n : String} {B : Builtin} {Q : PV → Sto → Prop}
    (O : OwnB X name id n B) (ht : typeOf (.builtin id) = pure (.type "method_descriptor")) (hne : (("_initial_size" : Str) == name) = false)
    (hbase : attributeBase o name env (eval o env) = eval o env) (hn : noStar args = true) (hl : Nat.blt args.length 20 = true) (hline : (apos.endLine == pos.line) = true)
    (h : TE X k env o ρ σ (kOwn X k env (.builtin id) args ρ Q)) :
    TE X k env (.Call (.Attribute o name apos) args [] pos) ρ σ Q := .mk fun A W s aa R F => by
  have hl' : args.length < 20 := by simpa using hl
  refine methCall hbase hn hl' hline (wpAny_mono (h.run A W s aa R F) (fun v s1 h1 => ?_) fun _ _ e => e)
  obtain ⟨W1, p, σ1, l1, R1, F1, r1, a, d, xs, i, rfl, ha, hd, h1⟩ := h1
  cases r1
  obtain ⟨vs, m, es, m', hW, hV, e1, z, q, e2, i2, I⟩ := acc_inst R1 ha hd
  intro pl
  refine method_bi (R1.K T) I C.get C.getx O.find ht (ini_shadow i2 hne) ?_
  refine callWith_ok T (first := [.ref a]) rfl hn h1 aa R1 F1 fun vs s2 h2 => ?_
  obtain ⟨W2, ps, σ2, l2, R2, F2, r2, h2⟩ := h2
  exact wpAny_mono (lift T h2 aa R2 F2 (vs := .ref a :: vs) ⟨.ref a, _, rfl, rfl, r2⟩) (fun _ _ q => (q.le l2).le l1) fun _ _ e => e
end
end Mine

end
section
open PySem PySem.W PyProof.Rows
set_option Elab.async false
set_option linter.unusedVariables false
set_option maxRecDepth 100000
set_option maxHeartbeats 1000000
namespace Mine
variable {X : Txt}

/-- what the running code is told of -/
structure SupEnv (fa : Addr) (fd : FuncData) (env : Env) : Prop where
  scope : env.scope = fd.scope
  func : env.func = some fa
  code : env.code = fd.code
  cells : env.cells = fd.closure
noncomputable def TDefA (X : Txt) (k : Nat) (fa : Addr) (fd : FuncData) (names : List Str) (body : List Stmt) (ps : List PV) (σ : Sto) (Q : PV → Sto → Prop) : Prop :=
  ∀ env : Env, SupEnv fa fd env → TSA X k body env body (bindP (names.zip ps) fun _ => none) σ fun c _ σ' => match c with
    | .ret p => Q p σ'
    | .next => Q .none σ'
    | _ => False

theorem bindL_rev {kd : Str → Option NameKind} : ∀ (l : List (Str × Value)) (m : Str → Option Value), (∀ x ∈ l, kd x.1 = some .local) → ∀ x, bindL kd l m x = (match l.reverse.lookup x with | some v => some v | none => m x)
  | [], m, _, x => rfl
  | (n, v) :: r, m, h, x => by
    have hn : kd n = some .local := h (n, v) List.mem_cons_self
    simp only [bindL]
    rw [bindL_rev r _ (fun y hy => h y (List.mem_cons_of_mem _ hy))]
    simp only [List.reverse_cons, List.lookup_append]
    cases e : List.lookup x r.reverse with
    | some u => simp
    | none =>
      by_cases hx : x = n
      · subst hx; simp [hn]
      · have : (x == n) = false := by simpa using hx
        rw [if_pos hn]; simp [hx, this, List.lookup]

/-- the heap is left as it was but for a place of its own -/
theorem defF_code (T : X.Ok) {k : Nat} {fa : Addr} {o : Obj} {fd : FuncData} {names : List Str} {body : List Stmt} {ps qs : List PV} {σ : Sto} {Q : PV → Sto → Prop}
    (hK : X.K.lookup fa = some o) (hd : o.data = .func fd) (hbody : fd.body = .stmts body) (hgl : fd.globals = mainGlobals) (hbl : fd.builtins = builtinsNs)
    (hcode : codeIn X.K fd.code fd.qualname = true) (hclo : fd.closure.length ≤ 1) (hkinds : ∀ x ∈ names, fd.scope.names.lookup x = some .local) (hcell : ∀ x ∈ fd.scope.names, x.2 ≠ .cell)
    (hco : fd.scope.isCoroutine = false) (hgen : fd.scope.isGenerator = false) (hkd : fd.scope.kind = .function) (hlen : qs.length = names.length)
    (hbind : ∀ (W : Map) (vs : List Value), VRels W ps vs → ∃ us, (∀ S, peek X.K S (bindArgs fd ⟨vs, []⟩) = some (names.zip us)) ∧ VRels W qs us)
    (h : TDefA X k fa fd names body qs σ Q) {A : Around} {W : Map} {s : Shared} {vs : List Value} (a : AOk (k + 1) A) (R : HRel X W σ s) (r : VRels W ps vs) : codeAny X.M A (.call (.ref fa) ⟨vs, []⟩) (wants (HPost X W Q) (fun _ _ => False)) s := by
  have ho := R.K T _ _ hK
  obtain ⟨us, hb, hu⟩ := hbind W vs r
  have hlu : us.length = names.length := by rw [hu.length]; exact hlen
  have nocell : ∀ x, fd.scope.names.lookup x ≠ some .cell := fun x hx => hcell _ (mem_of_lookup hx) rfl
  refine (ks_codeAny_call_defAt a.lim ho hd (R.limit T) (codeRec_of (R.K T) hcode) hbody (kp_binds (R.K T) hb) hcell (fun x hx => hkinds x.1 (List.of_mem_zip hx).1) (fun h₀ hns hkeep => ?_) hco hgen hkd)
  generalize hL : s.heap.objs.size = L at *
  have hnew : W L = .no := by rw [← hL]; exact R.new
  have l : Le W (W.set L .own) := by rw [← hL]; exact R.le_set _
  have R' : HRel X (W.set L .own) σ { s with heap := h₀, toks := s.toks + (names.zip us).length } := by
    refine ⟨fun b => ?_, fun b o e hb => l.fro _ _ (R.old b o e hb), fun b hb => ?_, fun b c => ?_, R.os, R.gens⟩
    · by_cases hb : b = L
      · subst hb; rw [Map.set_self]
        obtain ⟨o, _, _, ho, _⟩ := hns; exact ⟨o, ho⟩
      · rw [Map.set_ne hb]; exact (R.ok b).mono T l.fro (hkeep b)
    · have := R.tab b hb
      exact (Map.set_ne (by first | exact nq this (hnew) rfl | exact Ne.symm (nq this (hnew) rfl))).trans this
    · rw [R.cel]
      by_cases hb : b = L
      · subst hb; rw [Map.set_self, hnew]; exact ⟨fun e => (by cases e), fun e => (by cases e)⟩
      · rw [Map.set_ne hb]
  have rel := bind_rel (W := W.set L .own) (kd := (callEnv fd L fa).kindOf) (m := fun _ => none) (cm := fun _ => none) (ρ := fun _ => none) (hu.le l) hlen.symm (fun x hx => .inl (hkinds x hx)) (fun _ _ _ h => by cases h) (fun _ _ _ h => by cases h)
  have F' : FOk (W.set L .own) (callEnv fd L fa) (bindP (names.zip qs) fun _ => none) h₀ := by
    refine ⟨hkd, hgl, hbl, Map.set_self .., ⟨_, hns, fun x p hx hp => ?_⟩, fun x p hx hp => absurd hx (nocell x), fun x hx => absurd hx (nocell x), fun _ x c hx _ => absurd hx (nocell x), fun x y c hx hy => ?_⟩
    · obtain ⟨v, g1, g2⟩ := rel.1 x p hx hp
      rw [bindL_rev (kd := (callEnv fd L fa).kindOf) _ _ (fun y hy => hkinds y.1 (List.of_mem_zip hy).1)] at g1
      refine ⟨v, ?_, g2⟩
      cases e : List.lookup x (names.zip us).reverse with
      | some u => rw [e] at g1; exact g1
      | none => rw [e] at g1; cases g1
    · have hx' : fd.closure.lookup x = some c := hx
      have hy' : fd.closure.lookup y = some c := hy
      match hc : fd.closure, hclo with
      | [], _ => rw [hc] at hx'; cases hx'
      | [(n, c')], _ =>
        rw [hc] at hx' hy'
        simp only [List.lookup] at hx' hy'
        cases e1 : x == n <;> rw [e1] at hx' <;> cases e2 : y == n <;> rw [e2] at hy'
        · cases hx'
        · cases hx'
        · cases hy'
        · rw [beq_iff_eq.mp e1, beq_iff_eq.mp e2]
  refine _root_.PySem.wpAt_mono ((h (callEnv fd L fa) ⟨rfl, rfl, rfl, rfl⟩).run _ _ _ a.deeper R' F') (fun f s2 h2 => ?_) fun _ _ e => e.elim
  obtain ⟨W2, c, ρ2, σ2, l2, R2, F2, rc, h2⟩ := h2
  have hown : W2 L = .own := l2.own _ (Map.set_self ..)
  have l3 : Le W (W2.set L .no) := by
    exact (l.trans l2).off fun b hb => Map.set_ne fun e => hb (e ▸ hnew)
  have lf : ∀ b o, W2 b = .fro o → W2.set L .no b = .fro o := fun b o e => by
    rw [Map.set_ne (by first | exact nq e (hown) rfl | exact Ne.symm (nq e (hown) rfl) | (rintro rfl; rw [hown] at e; cases e))]; exact e
  have R3 : HRel X (W2.set L .no) σ2 s2 := by
    refine ⟨fun b => ?_, fun b o e hb => lf _ _ (R2.old b o e hb), fun b hb => ?_, fun b c => ?_, R2.os, R2.gens⟩
    · by_cases hb : b = L
      · subst hb; rw [Map.set_self]; trivial
      · rw [Map.set_ne hb]; exact (R2.ok b).mono T lf (fun _ e => e)
    · have := R2.tab b hb
      exact (Map.set_ne (by first | exact nq this (hown) rfl | exact Ne.symm (nq this (hown) rfl))).trans this
    · rw [R2.cel]
      by_cases hb : b = L
      · subst hb; rw [Map.set_self, hown]; exact ⟨fun e => (by cases e), fun e => (by cases e)⟩
      · rw [Map.set_ne hb]
  cases c with
  | next => cases rc; exact ⟨_, .none, σ2, l3, R3, rfl, h2⟩
  | brk => exact h2.elim
  | cont => exact h2.elim
  | ret p => obtain ⟨v, rfl, rv⟩ := rc; exact ⟨_, p, σ2, l3, R3, VRel.mono lf _ _ rv, h2⟩
theorem TOp.defF (T : X.Ok) {k : Nat} {fa : Addr} {o : Obj} {fd : FuncData} {names : List Str} {body : List Stmt} {ps qs : List PV} {σ : Sto} {Q : PV → Sto → Prop}
    (hK : X.K.lookup fa = some o) (hd : o.data = .func fd) (hbody : fd.body = .stmts body) (hgl : fd.globals = mainGlobals) (hbl : fd.builtins = builtinsNs)
    (hcode : codeIn X.K fd.code fd.qualname = true) (hclo : fd.closure.length ≤ 1) (hkinds : ∀ x ∈ names, fd.scope.names.lookup x = some .local) (hcell : ∀ x ∈ fd.scope.names, x.2 ≠ .cell)
    (hco : fd.scope.isCoroutine = false) (hgen : fd.scope.isGenerator = false) (hkd : fd.scope.kind = .function) (hlen : qs.length = names.length)
    (hbind : ∀ (W : Map) (vs : List Value), VRels W ps vs → ∃ us, (∀ S, peek X.K S (bindArgs fd ⟨vs, []⟩) = some (names.zip us)) ∧ VRels W qs us)
    (h : TDefA X k fa fd names body qs σ Q) : TOp X (k + 1) (fun vs => PySem.call (.ref fa) vs) ps σ Q := .mk fun A W s vs a R r =>
  wpAny_call (defF_code T hK hd hbody hgl hbl hcode hclo hkinds hcell hco hgen hkd hlen hbind h a R r)

end Mine

end
section
open PySem PySem.W PyProof.Rows
set_option Elab.async false
set_option linter.unusedVariables false
set_option maxRecDepth 100000
set_option maxHeartbeats 1000000
namespace Mine
variable {X : Txt}

inductive CodeFile (K : Frag) (c : Value) (file : Str) : Prop
  | mk (cc : Addr) (oc : Obj) (vs : Array Value) (f : Str) (tf : Tok) (e1 : c = .ref cc) (e2 : K.lookup cc = some oc) (e3 : oc.data = .fields vs) (e4 : vs[2]? = some (.str f tf)) (e5 : (file == f) = true)
inductive CloOk (K : Frag) (l : List (Str × Addr)) (C : Addr) : Prop
  | mk (cl : Addr) (oo : Obj) (e1 : l = [(("__class__" : Str), cl)]) (e2 : K.lookup cl = some oo) (e3 : oo.data = .cell (some (.ref C)))
structure SupFn (X : Txt) (fa : Addr) (fd : FuncData) : Prop where
  fn : ∃ o, X.K.lookup fa = some o ∧ o.data = .func fd
  first : ∃ ar, (fd.params.posonlyargs ++ fd.params.args).head? = some ar ∧ ar.arg = "self"
  code : CodeFile X.K fd.code X.prog.main.file
  top : (X.prog.main.scope.names.lookup ("super" : Str)).isSome = false
  clo : CloOk X.K fd.closure X.accCls
  kSup : fd.scope.names.lookup ("super" : Str) = some .globalImplicit
  kCls : fd.scope.names.lookup ("__class__" : Str) = some .free
  kSelf : fd.scope.names.lookup ("self" : Str) = some .local
  gl : X.glob "super" = some (.type "super")
  opq : nsIn X.K cStatics "thirdparty.any" = some none
  kind : fd.scope.kind = .function

noncomputable abbrev supObj (X : Txt) (x : Addr) : Obj := { cls := .type "super", dict := none, data := .fields #[.ref X.accCls, .ref x, .ref X.accCls], slots := #[] }

theorem glob_ok (T : X.Ok) {A : Around} {W : Map} {σ : Sto} {s : Shared} {env : Env} {ρ : Loc} {n : Str} {v : Value} {Q : Value → Shared → Prop} {E : Value → Shared → Prop} (R : HRel X W σ s) (F : FOk W env ρ s.heap) (hk : env.kindOf n = some .globalImplicit)
    (hv : X.glob n = some v) (h : Q v s) : wpAny X.M A (loadName env n) Q E s := by
  refine ks_loadName_global F.kind hk ?_
  unfold Txt.glob at hv
  cases e : X.mg n with
  | some u => rw [e] at hv; cases hv; exact Calls.loadGlobal_global (by rw [F.glb]; exact R.g T) e h
  | none => rw [e] at hv; exact Calls.loadGlobal_builtin (by rw [F.glb]; exact R.g T) e (by rw [F.blt]; exact R.b T) hv h

theorem AccCls.notTab (C : AccCls X) : True := trivial

theorem sup_base (T : X.Ok) (C : AccB X) {A : Around} {W : Map} {σ : Sto} {s : Shared} {env : Env} {ρ : Loc} {fa : Addr} {fd : FuncData} {body : List Stmt} {p0 p1 : Pos} {attr : Str} {whole : Sem Value} {a d : Addr} {xs : List PV} {i : Option Int} {Q : Value → Shared → Prop} {E : Value → Shared → Prop}
    (S : SupFn X fa fd) (H : SupEnv fa fd env) (hat : (attr == ("__class__" : Str)) = false) (hself : ρ "self" = some (.ptr a)) (ha : σ a = some (.acc d xs)) (hd : σ d = some (.ini i)) (R : HRel X W σ s) (F : FOk W env ρ s.heap)
    (h : ∀ h', h'.get? s.heap.objs.size = some (supObj X a) → (∀ y o, s.heap.get? y = some o → h'.get? y = some o) → Q (.ref s.heap.objs.size) { s with heap := h' }) :
    _root_.PySem.wpAt X.M A (.func body env) (attributeBase (.Call (.Name "super" p0) [] [] p1) attr env whole) Q E s := by
  obtain ⟨o, ho, hof⟩ := S.fn
  obtain ⟨ar, har, harn⟩ := S.first
  obtain ⟨cc, oc, vs, file, tf, hcc, hoc, hocd, hvs, hfile⟩ := S.code
  obtain ⟨cl, oo, hcl, hoo, hood⟩ := S.clo
  have K := R.K T
  have kd : ∀ x, env.kindOf x = fd.scope.names.lookup x := fun x => by show env.scope.names.lookup x = _; rw [H.scope]
  obtain ⟨cd, hcd, hmro⟩ := C.mro
  obtain ⟨oD, hD1, hD2⟩ : ∃ oD, s.heap.get? X.accCls = some oD ∧ oD.data = .cls cd := by
    unfold clsIn at hcd
    split at hcd
    · rename_i c d cd' sl ho
      cases hcd
      exact ⟨_, K _ _ ho, rfl⟩
    · cases hcd
  obtain ⟨us, n, es, m, hW, hV, e1, z, q, e2, i2, I⟩ := acc_inst R ha hd
  refine ks_wpAt_super_base (by rw [kd]; exact S.kSup) (by rw [kd]; exact S.kCls) hat H.func (K _ _ ho) hof har (by rw [H.code]; exact hcc) (K _ _ hoc) hocd hvs hfile S.top ?_
  refine glob_ok T R F (by rw [kd]; exact S.kSup) S.gl ⟨rfl, ?_⟩
  refine wpAny_loadName_free F.kind (by rw [kd]; exact S.kCls) (by rw [H.cells, hcl]; rfl) ⟨_, K _ _ hoo, hood⟩ ?_
  rw [harn]
  obtain ⟨ml, hn, hm⟩ := F.ns
  obtain ⟨v, h1, h2⟩ := hm "self" _ (by rw [kd]; exact S.kSelf) hself
  cases h2
  refine wpAny_loadName_local F.kind (by rw [kd]; exact S.kSelf) hn h1 ?_
  obtain ⟨hh, g, dr, t, os⟩ := s
  refine ks_wpAny_isType_cls hD1 hD2 ⟨rfl, ?_⟩
  refine ks_wpAny_call_super hD1 hD2 I.at_ rfl (fun c e => by cases e) (looks_mroIn K (by unfold mroIn; rw [hcd, Option.bind_some, hmro]; simp)) (fun h' e k => h h' e k)

theorem acc_ne (C : AccB X) {s : Shared} {x : Addr} {d : Addr} {vs : List Value} {n : Nat} (K : X.K.In s.heap) (e : s.heap.get? x = some (accObj X d vs n)) : x ≠ X.accCls := by
  rintro rfl
  obtain ⟨cd, hcd, hmro⟩ := C.mro
  unfold clsIn at hcd
  split at hcd
  · rename_i c d cd' sl ho
    have e' := K _ _ ho
    rw [e] at e'; cases e'
  · cases hcd
theorem mro_looks (C : AccB X) {M : Model} {h : Heap} (K : X.K.In h) : Looks M h (mroOf (.ref X.accCls)) [.ref X.accCls, .type "list", .type "object"] := by
  obtain ⟨cd, hcd, hmro⟩ := C.mro
  rw [← hmro]; exact (looks_clsIn K hcd).andThen .now
theorem mro_cut (X : Txt) : (([.ref X.accCls, .type "list", .type "object"] : List Value).dropWhile (· != .ref X.accCls)).drop 1 = [.type "list", .type "object"] := by simp
/-- what super() gives of list's own -/
structure SupB (X : Txt) (name : Str) (id DT bt : String) (B' : Builtin) : Prop where
  find : alongIn X.K name [.type "list", .type "object"] = some (some (.builtin id))
  ty : typeOf (.builtin id) = pure (.type DT)
  tyIs : ∀ s : Shared, s.TypeIs (.builtin id) DT
  kinds : (DT = "wrapper_descriptor" ∧ bt = "method-wrapper" ∧ ".".intercalate (id.cutAt '.').dropLast = "list") ∨ (DT = "method_descriptor" ∧ bt = "builtin_function_or_method" ∧ ".".intercalate (id.cutAt '.').dropLast = "list" ∧ Manifest.toldItsClass.contains id = false)
  entry : entryFor table id = some B'
  plain : plainId id = true
  name : (name == ("__class__" : Str)) = false

theorem sup_method (C : AccB X) {A : Around} {E : Value → Shared → Prop} {h : Heap} {g : Array GenState} {dr : Drawn} {t : Nat} {os : OsState} {so x d : Addr} {vs : List Value} {n : Nat} {name : Str} {id DT bt : String} {B' : Builtin} {pl : Sem Bool} {Q : Value × List Value → Shared → Prop} (O : SupB X name id DT bt B')
    (hop : nsIn X.K cStatics "thirdparty.any" = some none) (K : X.K.In h) (hso : h.get? so = some (supObj X x)) (hx : h.get? x = some (accObj X d vs n))
    (hq : Q (.ref h.objs.size, []) ⟨h.push { cls := .type bt, data := .fields #[.builtin id, .ref x] }, g, dr, t + 1, os⟩) :
    wpAny X.M A (getMethod (.ref so) name pl) Q E ⟨h, g, dr, t, os⟩ := by
  have hne := acc_ne C (s := ⟨h, g, dr, t, os⟩) K hx
  rcases O.kinds with ⟨rfl, rfl, hid⟩ | ⟨rfl, rfl, hid, hto⟩
  · exact method_b (B := Builtin.«wrapper_descriptor.__get__») (gid := "wrapper_descriptor.__get__") (bt := "method-wrapper") hso (looks_opaque K hop) (mro_looks C K) (mro_cut X) K O.find O.ty slot_wd_get O.tyIs entry_wd_get (args_wd_get _ _ _) hne O.name
      (fun t A E Q hq => wd_get hid hx rfl (C.isList K) hq) hq
  · exact method_b (B := Builtin.«method_descriptor.__get__») (gid := "method_descriptor.__get__") (bt := "builtin_function_or_method") hso (looks_opaque K hop) (mro_looks C K) (mro_cut X) K O.find O.ty slot_md_get O.tyIs entry_md_get (args_md_get _ _ _) hne O.name
      (fun t A E Q hq => md_get hid hto hx rfl (C.isList K) hq) hq

/-- `super().name()`, name a builtin of list's -/
theorem TEA.super0 (T : X.Ok) (C : AccB X) {k : Nat} {σ : Sto} {env : Env} {ρ : Loc} {fa : Addr} {fd : FuncData} {body : List Stmt} {p0 p1 apos pos : Pos} {name : Str} {id DT bt : String} {B' : Builtin} {a d : Addr} {xs : List PV} {i : Option Int} {Q : PV → Sto → Prop}
    (S : SupFn X fa fd) (H : SupEnv fa fd env) (O : SupB X name id DT bt B') (hline : (apos.endLine == pos.line) = true) (hself : ρ "self" = some (.ptr a)) (ha : σ a = some (.acc d xs)) (hd : σ d = some (.ini i))
    (hcheck : ∀ (A : Around) (W : Map) (s : Shared), HRel X W σ s → wpAny X.M A (checkBoundCall id ⟨[.ref a], []⟩) (fun _ s' => s' = s) (fun _ _ => False) s)
    (hbody : ∀ (A : Around) (W : Map) (s : Shared), HRel X W σ s → wpAny X.M A (B' ⟨[.ref a], []⟩) (fun fin s' => ∃ v, fin = .done (.ret v) ∧ HPost X W Q v s') (fun _ _ => False) s) :
    TEA X k body env (.Call (.Attribute (.Call (.Name "super" p0) [] [] p1) name apos) [] [] pos) ρ σ Q := .mk fun A W s aa R F => by
  rw [arm_eval_Call]
  refine _root_.PySem.wpAt_bind (sup_base T C S H O.name hself ha hd R F fun h' hso hkeep => ?_)
  have R1 : HRel X W σ { s with heap := h' } := R.ext T hkeep s.toks
  have F1 : FOk W env ρ h' := FOk.ext R F hkeep
  obtain ⟨us, n, es, m, hW, hV, e1, z, q, e2, i2, I⟩ := acc_inst R1 ha hd
  refine _root_.PySem.wpAt_of_wpAny (wpAny_bind (wpAny_standAt ?_))
  have hfew := fewArgs (env := env) (pos := pos) (args := []) rfl (by decide)
  have hform : methodCallForm (([] : List Expr).length + ([] : List Keyword).length) (backTo pos (starEach [] env)) (backToKw pos (keywordEach [] env)) = true := hfew
  have hpos : methodCallPos true (.Call (.Name "super" p0) [] [] p1) env apos pos = pure pos := by unfold methodCallPos; simp [hline]
  unfold methodCall
  rw [hform]
  refine wpAny_bind (wpAny_holding (sup_method C O S.opq (R1.K T) hso e1 ?_))
  refine wpAny_bind (wpAny_of_eq hpos ?_)
  have hkeep2 : ∀ y o, h'.get? y = some o → (h'.push { cls := .type bt, data := .fields #[.builtin id, .ref a] }).get? y = some o := fun y o e => Heap.get?_push_of_some _ e
  have R2 : HRel X W σ ⟨h'.push { cls := .type bt, data := .fields #[.builtin id, .ref a] }, s.gens, s.drawn, s.toks + 1, s.os⟩ := R1.ext T hkeep2 (s.toks + 1)
  have F2 : FOk W env ρ (h'.push { cls := .type bt, data := .fields #[.builtin id, .ref a] }) := FOk.ext R1 F1 hkeep2
  have hb : (h'.push { cls := .type bt, data := .fields #[.builtin id, .ref a] }).get? h'.objs.size = some { cls := .type bt, dict := none, data := .fields #[.builtin id, .ref a], slots := #[] } := Heap.get?_push_at rfl rfl
  have hbt : bt = "builtin_function_or_method" ∨ bt = "method-wrapper" := by rcases O.kinds with ⟨_, h, _⟩ | ⟨_, h, _⟩; exact .inr h; exact .inl h
  show wpAny X.M A (callWith pos (.ref h'.objs.size) [] [] []) _ _ _
  refine callWith_of (P := fun hp => hp.get? h'.objs.size = some { cls := .type bt, dict := none, data := .fields #[.builtin id, .ref a], slots := #[] }) rfl (fun hp e => ⟨.machine, .inr (.inl rfl), ?_⟩) (evalArgs_nil3 ⟨hb, ?_⟩)
  · unfold keeperOf
    refine (Looks.ld e).andThen ?_
    rcases hbt with rfl | rfl <;> exact .now
  · refine wpAny_call (call_boundB hb hbt (hcheck _ _ _ R2) (codeAny_builtin O.entry ?_) (plainId_quiet O.plain _))
    rw [Around.under_plainId O.plain]
    have key := liftG T (P := fun W' σ' fin => ∃ v p, fin = PySem.Fin.done (.ret v) ∧ VRel W' p v ∧ Q p σ') (A := A.in1) (t := B' ⟨[.ref a], []⟩) (wpAny_mono (hbody A.in1 _ _ (R2.hide T)) (fun fin s' hf => ?_) fun _ _ e => e) R2 F2
    · refine wpAny_mono key (fun fin s' hf => ?_) fun _ _ e => e.elim
      obtain ⟨W', W'', σ', l, R', F', lf, v, p, rfl, r, hq⟩ := hf
      exact ⟨W'', p, σ', l, R', F', VRel.mono lf _ _ r, hq⟩
    · obtain ⟨v, rfl, W', p, σ', l, R', r, hq⟩ := hf
      exact ⟨W', σ', l, R', v, p, rfl, r, hq⟩
end Mine

end
section
open PySem PySem.W PyProof.Rows
set_option Elab.async false
set_option linter.unusedVariables false
set_option maxRecDepth 100000
set_option maxHeartbeats 1000000
namespace Mine
variable {X : Txt}

structure LMakes (X : Txt) (fI : Addr) : Prop where
  cls : ∃ oc od cd sl, X.K.lookup X.accCls = some ⟨oc, od, .cls cd, sl⟩ ∧ (sl.toList[4]?).join = some (.builtin "list.__new__") ∧ cd.mro = [.ref X.accCls, .type "list", .type "object"] ∧ cd.hasDel = false
  call : specialIn X.K (.ref X.accCls) "__call__" = some (some (.builtin "type.__call__"))
  typ : instIn X.K (.ref X.accCls) (.type "type") = some true
  init : findIn X.K (.ref X.accCls) "__init__" = some (some (.ref fI))
  fn : typeIn X.K (.ref fI) = some (.type "function")

section
variable {M : Model} {h : Heap} {fI : Addr}
theorem LMakes.mk' (Y : LMakes X fI) (K : X.K.In h) : Looks M h (mroOf (.ref X.accCls)) [.ref X.accCls, .type "list", .type "object"] := by
  obtain ⟨oc, od, cd, sl, ho, e3, em, ed⟩ := Y.cls
  have hc : clsIn X.K X.accCls = some cd := by unfold clsIn; rw [ho]
  rw [← em]; exact (looks_clsIn K hc).andThen .now
theorem LMakes.made (Y : LMakes X fI) (K : X.K.In h) : Looks M h (Bind.madeBy (.ref X.accCls)) (some "list.__new__") := by
  obtain ⟨oc, od, cd, sl, ho, e3, em, ed⟩ := Y.cls
  intro A Q E s k q
  unfold Bind.madeBy
  refine wpAny_bind (Y.mk' K A _ E s k ?_)
  rw [List.forIn_cons]
  refine wpAny_bind (wpAny_bind (wpAny_bind (wpAny_bind (wpAny_loadPart (k _ _ (K _ _ ho)) (wpAny_pure ?_)))))
  dsimp only
  rw [← Array.getElem?_toList, e3]
  exact wpAny_pure (wpAny_pure (wpAny_pure q))
theorem LMakes.base (Y : LMakes X fI) (K : X.K.In h) : Looks M h (Bind.staticBase (.ref X.accCls)) (.ref X.accCls) := by
  intro A Q E s k q
  unfold Bind.staticBase
  refine wpAny_bind (Y.mk' K A _ E s k ?_)
  rw [List.forIn_cons]
  exact wpAny_bind (wpAny_bind (wpAny_bind (Y.made K A _ E s k (wpAny_pure (wpAny_pure (wpAny_pure q))))))
theorem LMakes.sub (Y : LMakes X fI) (K : X.K.In h) (b : Value) (hb : b ∈ ([.ref X.accCls, .type "list", .type "object"] : List Value)) : Looks M h (isSubtype (.ref X.accCls) b) true := by
  obtain ⟨oc, od, cd, sl, ho, e3, em, ed⟩ := Y.cls
  have hc : clsIn X.K X.accCls = some cd := by unfold clsIn; rw [ho]
  exact looks_mroIn K (by unfold mroIn; rw [hc, Option.bind_some, if_neg (by rw [em]; simp), em]; simpa using hb)
end
section
variable {A : Around} {fI : Addr} {R : Result → Shared → Prop} {h : Heap} {g : Array GenState} {d : Drawn} {t : Nat} {os : OsState}
theorem new_L (Y : LMakes X fI) (K : X.K.In h) {rest : List Value}
    (hq : R (.ok (.ret (.ref (h.objs.size + 1)))) ⟨(h.push (dicObj #[] 0)).push (accObj X h.objs.size [] 0), g, d, t, os⟩) :
    codeAny X.M A (.call (.builtin "list.__new__") ⟨.ref X.accCls :: rest, []⟩) R ⟨h, g, d, t, os⟩ := by
  have hk : builtinKind "list.__new__" = some .builtinFn := by decide +kernel
  have hs : splitId "list.__new__" = some ("list", "__new__") := by decide +kernel
  refine codeAny_call_builtin_code (plainId_quiet F.plain_list_new _) ?_
  obtain ⟨oc, od, cd, sl, ho, e3, em, ed⟩ := Y.cls
  have hC := K _ _ ho
  have isT : Looks X.M h (isType (.ref X.accCls)) true := by
    intro A Q E s k q
    obtain ⟨hh, gg, dd, tt, oss⟩ := s
    exact ks_wpAny_isType_cls (k _ _ hC) rfl q
  have sub := Y.sub K (M := X.M) (.type "list") (by simp)
  have base := Y.base K (M := X.M)
  have made := Y.made K (M := X.M)
  unfold checkBuiltinCall
  simp only [hk, hs]
  repeat (first | simp only [bne_self_eq_false, Bool.false_eq_true, if_false, Bool.not_true, beq_self_eq_true, if_true] | lk)
  refine codeAny_builtin_stack F.entry_list_new rfl fun p st => ?_
  rw [Around.under_plainId F.plain_list_new _]
  have hown := owner_list_new
  simp only [hown]
  have hC' := Heap.get?_push_of_some (accObj X (h.push (dicObj #[] 0)).objs.size.pred [] 0) (Heap.get?_push_of_some (dicObj #[] 0) hC)
  repeat (first | simp only [Bool.not_true, Bool.false_eq_true, if_false] | lk)
  refine wpAny_load (Heap.get?_push_of_some _ (Heap.get?_push_of_some _ hC)) (wpAny_pure ?_)
  rw [ed]
  refine wpAny_pure (wpAny_pure ?_)
  show R _ _
  rw [Heap.size_push]
  exact hq
/-- the class is called -/
theorem make_L (Y : LMakes X fI) (K : X.K.In h) {rest : List Value}
    (hq : codeAny X.M (A.under (.builtin "type.__call__" ⟨.ref X.accCls :: rest, []⟩)) (.call (.ref fI) ⟨.ref (h.objs.size + 1) :: rest, []⟩) (InitBack (h.objs.size + 1) R) ⟨(h.push (dicObj #[] 0)).push (accObj X h.objs.size [] 0), g, d, t, os⟩) :
    codeAny X.M A (.call (.ref X.accCls) ⟨rest, []⟩) R ⟨h, g, d, t, os⟩ := by
  obtain ⟨oc, od, cd, sl, ho, e3, em, ed⟩ := Y.cls
  have hC := K _ _ ho
  have call : Looks X.M h (specialOf (.ref X.accCls) "__call__") (some (.builtin "type.__call__")) := looks_specialIn K Y.call
  have typ : Looks X.M h (isInstance (.ref X.accCls) (.type "type")) true := looks_instIn K Y.typ
  have made := Y.made K (M := X.M)
  have hm := Y.mk' K (M := X.M)
  refine codeAny_of_tree ?_
  show wpAny _ _ (callAny (.ref X.accCls) _) _ _ _
  refine nd_load hC ?_
  show wpAny _ _ (callAny.viaDunder (.ref X.accCls) _) _ _ _
  unfold callAny.viaDunder
  refine wpAny_bind (call.at ?_)
  dsimp only
  rw [tc_bind]
  refine wpAny_bind (wpAny_pure (wpAny_bind (wpAny_pure ?_)))
  refine wpAny_pure (a := PySem.Fin.again (.call (.builtin "type.__call__") ⟨.ref X.accCls :: rest, []⟩)) (And.intro rfl ?_)
  refine codeAny_call_builtin_at (Code.quiet_builtin _ (by decide +kernel)) entry_typeCall (check_slot tc_kind tc_split typ (tc_args _ _ _) ?_)
  unfold Builtin.«type.__call__»
  have e4 : ([.ref X.accCls, .type "list", .type "object"] : List Value).isEmpty = false := rfl
  repeat (first | simp only [e4, Bool.false_eq_true, if_false] | with_reducible refine wpAny_call ?_ | lk)
  refine new_L Y K ?_
  have k : ∀ b o, h.get? b = some o → ((h.push (dicObj #[] 0)).push (accObj X h.objs.size [] 0)).get? b = some o := fun b o e => Heap.get?_push_of_some _ (Heap.get?_push_of_some _ e)
  have hx : ((h.push (dicObj #[] 0)).push (accObj X h.objs.size [] 0)).get? (h.objs.size + 1) = some (accObj X h.objs.size [] 0) := by
    have : (h.push (dicObj #[] 0)).objs.size = h.objs.size + 1 := Heap.size_push ..
    rw [← this]; exact Heap.get?_push_size _ rfl
  have t1 : Looks X.M ((h.push (dicObj #[] 0)).push (accObj X h.objs.size [] 0)) (typeOf (.ref (h.objs.size + 1))) (.ref X.accCls) := (Looks.ld hx).andThen .now
  have s1 := (Y.sub K (M := X.M) (.ref X.accCls) (by simp)).keeps k
  have i1 : Looks X.M ((h.push (dicObj #[] 0)).push (accObj X h.objs.size [] 0)) (typeLookup (.ref X.accCls) "__init__") (some (.ref fI)) := (looks_findIn K Y.init).keeps k
  have b1 := (bind_fn (M := X.M) K (.ref (h.objs.size + 1)) Y.fn).keeps k
  unfold isInstance callSpecial? specialOf
  repeat (first | with_reducible refine wpAny_call ?_ | lk)
  refine codeAny_mono hq fun r s' z => ?_
  rcases r with e | (v | _ | _ | _) <;> first | exact z | exact z.elim | skip
  obtain ⟨rfl, z⟩ := z
  exact wpAny_pure (wpAny_pure z)
end
end Mine

end
section
open PySem PySem.W PyProof.Rows
set_option Elab.async false
set_option linter.unusedVariables false
set_option maxRecDepth 100000
set_option maxHeartbeats 1000000
namespace Mine
variable {X : Txt}
theorem AOk.make {k : Nat} {A : Around} (a : AOk (k + 1) A) (c : Addr) (rest : List Value) : AOk k (A.under (.builtin "type.__call__" ⟨.ref c :: rest, []⟩)) := by
  have h1 : (Code.builtin "type.__call__" ⟨.ref c :: rest, []⟩).weight = 1 := by kernel_rfl
  have h2 : (Code.builtin "type.__call__" ⟨.ref c :: rest, []⟩).cUnits = 1 := by kernel_rfl
  refine ⟨?_, ?_, a.handled⟩
  · show A.depth + _ + _ ≤ _; rw [h1]; have := a.depth; lia
  · show A.units + _ + _ ≤ _; rw [h2]; have := a.units; lia
section
variable {k : Nat} {σ : Sto}
/-- a call of the class -/
theorem TOp.newA (T : X.Ok) {fI : Addr} (Y : LMakes X fI) {ps : List PV} {Q : PV → Sto → Prop}
    (h : ∀ a d, σ a = none → σ d = none → a ≠ d → ∀ A W s vs, AOk k A → HRel X W ((σ.set d (some (.ini none))).set a (some (.acc d []))) s → VRels W (.ptr a :: ps) vs →
      codeAny X.M A (.call (.ref fI) ⟨vs, []⟩) (wants (HPost X W fun r σ' => r = .none ∧ Q (.ptr a) σ') (fun _ _ => False)) s) :
    TOp X (k + 1) (fun vs => PySem.call (.ref X.accCls) vs) ps σ Q := .mk fun A W s vs aa R r => by
  obtain ⟨hp, g, dr, t, os⟩ := s
  have hd : σ hp.objs.size = none := by
    cases e : σ hp.objs.size with
    | none => rfl
    | some c => have := (R.cel _ _).mp e; rw [R.new] at this; cases this
  have R1 := R.pushCel T (o := dicObj #[] 0) (c := .ini none) ⟨#[], 0, Heap.get?_push_size _ rfl, rfl⟩ t
  have l1 := R.le_set (.cel (.ini none))
  have hsz : (hp.push (dicObj #[] 0)).objs.size = hp.objs.size + 1 := Heap.size_push ..
  have R2 := R1.pushCel T (o := accObj X hp.objs.size [] 0) (c := .acc hp.objs.size []) ⟨[], 0, Heap.get?_push_size _ rfl, by simp, rfl⟩ t
  have l2 := R1.le_set (.cel (.acc hp.objs.size []))
  dsimp only at R2 l2 l1 R1
  rw [hsz] at R2 l2
  have ha : σ (hp.objs.size + 1) = none := by
    cases e : σ (hp.objs.size + 1) with
    | none => rfl
    | some c =>
      have h1 := (R.cel _ _).mp e
      have h2 := R.above (a := hp.objs.size + 1) (Nat.le_succ _)
      rw [h2] at h1; cases h1
  refine wpAny_call (make_L Y (R.K T) ?_)
  refine codeAny_mono (h (hp.objs.size + 1) hp.objs.size ha hd (Nat.succ_ne_self _) _ _ _ (.ref (hp.objs.size + 1) :: vs) (aa.make _ _) R2 ⟨_, _, rfl, rfl, r.le (l1.trans l2)⟩) fun r s' hr => ?_
  rcases r with e | (v | _ | _ | _) <;> first | exact hr.elim | skip
  obtain ⟨W', p, σ', l, R', rv, rfl, q⟩ := hr
  cases rv
  exact ⟨rfl, W', .ptr _, σ', (l1.trans l2).trans l, R', rfl, q⟩
end

theorem check_init (v : Value) : checkBoundCall "list.__init__" ⟨[v], []⟩ = pure () := by kernel_rfl
theorem check_ok {M : Model} {A : Around} {s : Shared} {id : String} {vs : List Value} (h : checkBoundCall id ⟨vs, []⟩ = pure ()) : wpAny M A (checkBoundCall id ⟨vs, []⟩) (fun _ s' => s' = s) (fun _ _ => False) s := by rw [h]; exact wpAny_pure rfl
theorem sup_len (X : Txt) : SupB X "__len__" "list.__len__" "wrapper_descriptor" "method-wrapper" Builtin.«list.__len__» :=
  ⟨by kernel_rfl, by kernel_rfl, fun s => (show typeOf (.builtin _) = _ by kernel_rfl), .inl ⟨rfl, rfl, by kernel_rfl⟩, entry_list_len, by decide +kernel, by decide +kernel⟩
theorem sup_init (X : Txt) : SupB X "__init__" "list.__init__" "wrapper_descriptor" "method-wrapper" Builtin.«list.__init__» :=
  ⟨by kernel_rfl, by kernel_rfl, fun s => (show typeOf (.builtin _) = _ by kernel_rfl), .inl ⟨rfl, rfl, by kernel_rfl⟩, F.entry_list_init, by decide +kernel, by decide +kernel⟩
theorem sup_pop (X : Txt) : SupB X "pop" "list.pop" "method_descriptor" "builtin_function_or_method" Builtin.«list.pop» :=
  ⟨by kernel_rfl, by kernel_rfl, fun s => (show typeOf (.builtin _) = _ by kernel_rfl), .inr ⟨rfl, rfl, by kernel_rfl, by decide +kernel⟩, F.entry_list_pop, by decide +kernel, by decide +kernel⟩
theorem check_pop (C : AccB X) {A : Around} {s : Shared} {x d : Addr} {vs : List Value} {n : Nat} (K : X.K.In s.heap) (hx : s.heap.get? x = some (accObj X d vs n)) (hty : typeIn X.K (.ref X.accCls) = some (.type "type")) (hqn : ∀ cd, clsIn X.K X.accCls = some cd → cd.qualname = "_Accumulator") :
    wpAny X.M A (checkBoundCall "list.pop" ⟨[.ref x], []⟩) (fun _ s' => s' = s) (fun _ _ => False) s := by
  obtain ⟨hp, g, dr, t, os⟩ := s
  obtain ⟨cd, hcd, hmro⟩ := C.mro
  have ty : Looks X.M hp (typeOf (.ref x)) (.ref X.accCls) := (Looks.ld hx).andThen .now
  have nomod : Looks X.M hp (isInstance (.ref x) (.type "module")) false := ty.andThen (looks_mroIn K (by unfold mroIn; rw [hcd, Option.bind_some, if_neg (by rw [hmro]; simp), hmro]; rfl))
  have isT : Looks X.M hp (isType (.ref x)) false := by
    intro A Q E s k q
    obtain ⟨hh, gg, dd, tt, oss⟩ := s
    exact ks_wpAny_isType_inst (k _ _ hx) (fun c e => by cases e) q
  have cdl := looks_clsIn (M := X.M) K hcd
  have tyc := looks_typeIn (M := X.M) K hty
  unfold checkBoundCall
  have hq := hqn _ hcd
  repeat (first | simp only [beq_self_eq_true, if_true] | lk)
  rw [hq]
  repeat (first | simp only [beq_self_eq_true, if_true] | lk)

section
variable {A : Around} {W : Map} {σ : Sto} {s : Shared} {a d : Addr} {xs : List PV} {Q : PV → Sto → Prop}
theorem body_supLen (ha : σ a = some (.acc d xs)) (hq : Q (.int xs.length) σ) (R : HRel X W σ s) : wpAny X.M A (Builtin.«list.__len__» ⟨[.ref a], []⟩) (fun fin s' => ∃ v, fin = .done (.ret v) ∧ HPost X W Q v s') (fun _ _ => False) s := by
  obtain ⟨us, n, ho, z, q⟩ := R.at' ((R.cel a _).mp ha)
  obtain ⟨hp, g, dr, t, os⟩ := s
  refine own_len ho ⟨_, rfl, W, .int xs.length, σ, Le.refl W, R.toks (t + 1), ⟨t, ?_⟩, hq⟩
  rw [List.size_toArray, q.length]
theorem VRels.split {W : Map} : ∀ {xs ys : List PV} {vs : List Value}, VRels W (xs ++ ys) vs → ∃ us ws, vs = us ++ ws ∧ VRels W xs us ∧ VRels W ys ws
  | [], _, vs, h => ⟨[], vs, rfl, rfl, h⟩
  | x :: xs, ys, _, ⟨v, r, rfl, a, b⟩ => by
    obtain ⟨us, ws, rfl, h1, h2⟩ := VRels.split (xs := xs) b
    exact ⟨v :: us, ws, rfl, ⟨v, us, rfl, a, h1⟩, h2⟩
theorem body_supPop (T : X.Ok) {p : PV} (ha : σ a = some (.acc d (xs ++ [p]))) (hq : Q p (σ.set a (some (.acc d xs)))) (R : HRel X W σ s) : wpAny X.M A (Builtin.«list.pop» ⟨[.ref a], []⟩) (fun fin s' => ∃ v, fin = .done (.ret v) ∧ HPost X W Q v s') (fun _ _ => False) s := by
  have hW := (R.cel a _).mp ha
  obtain ⟨us', n, ho, z, q⟩ := R.at' hW
  obtain ⟨us, ws, rfl, q1, q2⟩ := VRels.split q
  obtain ⟨v, _, rfl, rv, rfl⟩ := q2
  obtain ⟨hp, g, dr, t, os⟩ := s
  refine own_pop ho z fun n' hs hg => ⟨v, rfl, ?_⟩
  have lf : ∀ b o, W b = .fro o → W.set a (.cel (.acc d xs)) b = .fro o := fun b o e => by rw [Map.set_ne (by first | exact nq e (hW) rfl | exact Ne.symm (nq e (hW) rfl) | (rintro rfl; rw [hW] at e; cases e))]; exact e
  obtain ⟨R', l'⟩ := R.cellSet T hW hs (c' := .acc d xs) ⟨us, n', hg, by simp at z; lia, VRels.mono lf _ _ q1⟩ t
  exact ⟨_, p, _, l', R', VRel.mono lf _ _ rv, hq⟩
theorem Sto.same {a : Addr} {c : Cell} (h : σ a = some c) : σ.set a (some c) = σ := by
  funext b; unfold Sto.set; split
  · rename_i e; rw [e, h]
  · rfl
theorem body_supInit (T : X.Ok) (ha : σ a = some (.acc d [])) (hq : Q .none σ) (R : HRel X W σ s) : wpAny X.M A (Builtin.«list.__init__» ⟨[.ref a], []⟩) (fun fin s' => ∃ v, fin = .done (.ret v) ∧ HPost X W Q v s') (fun _ _ => False) s := by
  have hW := (R.cel a _).mp ha
  obtain ⟨us, n, ho, z, q⟩ := R.at' hW
  cases q
  obtain ⟨hp, g, dr, t, os⟩ := s
  refine body_init ho fun h' n' hg hs => ⟨_, rfl, ?_⟩
  obtain ⟨R', l'⟩ := R.cellSet T hW hs (c' := .acc d []) ⟨[], n', hg, by simp, rfl⟩ t
  rw [Sto.same ha] at R'
  exact ⟨_, .none, σ, l', R', rfl, hq⟩
end
end Mine

end
section
open PySem PySem.W PyProof.Rows
set_option Elab.async false
set_option linter.unusedVariables false
set_option maxRecDepth 100000
set_option maxHeartbeats 1000000
namespace Mine
variable {X : Txt}

/-- what stands at a is a sequence -/
noncomputable def SeqAt (h : Heap) (a : Addr) (items : Array Value) : Prop := ∃ o n, h.get? a = some o ∧ o.data = .seq items n
section
variable {prog : Program} {w : World} {A : Around} {E : Value → Shared → Prop} {s : Shared}
theorem own_next {it l : Addr} {i : Nat} {items : Array Value} {x : Value} {Q : Option Value → Shared → Prop} (hit : s.heap.IsListIter it l i) (hl : SeqAt s.heap l items) (hx : items[i]? = some x)
    (hQ : ∀ h', h'.IsListIter it l (i + 1) → Heap.SameBut it s.heap h' → Q (some x) { s with heap := h' }) : wpAny (model prog w) A (pyNext (.ref it)) Q E s := by
  obtain ⟨o, ho, hc, hd⟩ := id hit
  obtain ⟨ol, nl, hol, hdl⟩ := hl
  unfold pyNext
  refine wpAny_bind (wpAny_attempt (wpAny_callSpecial?_slot (name := Str.ofString "__next__") hit.typeIs slot_listiter_next (wpAny_call_entry slot_listiter_next hit.typeIs entry_listiter_next ?_ (args_listiter_next _))))
  show wpAny _ _ (field (.ref it) 0 >>= _) _ _ s
  refine wpAny_bind (wpAny_field ho hd (x := .ref l) rfl ?_)
  show wpAny _ _ (if (Value.ref l == Value.none) = true then _ else _) _ _ s
  rw [if_neg (show ¬ ((Value.ref l == Value.none) = true) from Bool.false_ne_true)]
  show wpAny _ _ (field (.ref it) 1 >>= _) _ _ s
  refine wpAny_bind (wpAny_field ho hd (x := .int i 0) rfl ?_)
  show wpAny _ _ (seqItems? (.ref l) >>= _) _ _ s
  refine wpAny_bind (wpAny_seqItems hol hdl ?_)
  simp only [Int.toNat_natCast, hx]
  refine wpAny_bind (wpAny_setField ho hd (by simp) (wpAny_pure ⟨x, rfl, wpAny_pure (hQ _ ?_ (Heap.SameBut.update ..))⟩))
  exact ⟨_, Heap.get?_update_self _ ho (Obj.isFreed_of_fields (Obj.data_mapFields hd _)), (Obj.cls_mapFields ..).trans hc, by rw [Obj.data_mapFields hd]; simp [rawInt]⟩
theorem own_end {it l : Addr} {i : Nat} {items : Array Value} {Q : Option Value → Shared → Prop} (hh : A.handled = none) (hit : s.heap.IsListIter it l i) (hl : SeqAt s.heap l items) (hx : items[i]? = none)
    (hQ : ∀ h', Heap.ExtBut it s.heap h' → Q none { s with heap := h' }) : wpAny (model prog w) A (pyNext (.ref it)) Q E s := by
  obtain ⟨o, ho, hc, hd⟩ := id hit
  obtain ⟨ol, nl, hol, hdl⟩ := hl
  unfold pyNext
  refine wpAny_bind (wpAny_attempt (wpAny_callSpecial?_slot (name := Str.ofString "__next__") hit.typeIs slot_listiter_next (wpAny_call_entry slot_listiter_next hit.typeIs entry_listiter_next ?_ (args_listiter_next _))))
  show wpAny _ _ (field (.ref it) 0 >>= _) _ _ s
  refine wpAny_bind (wpAny_field ho hd (x := .ref l) rfl ?_)
  show wpAny _ _ (if (Value.ref l == Value.none) = true then _ else _) _ _ s
  rw [if_neg (show ¬ ((Value.ref l == Value.none) = true) from Bool.false_ne_true)]
  show wpAny _ _ (field (.ref it) 1 >>= _) _ _ s
  refine wpAny_bind (wpAny_field ho hd (x := .int i 0) rfl ?_)
  show wpAny _ _ (seqItems? (.ref l) >>= _) _ _ s
  refine wpAny_bind (wpAny_seqItems hol hdl ?_)
  simp only [Int.toNat_natCast, hx]
  refine wpAny_bind (wpAny_rule (wpAny_bind (wpAny_setField ho hd (by simp) ?_)))
  show wpAny _ _ (newExc (.type "StopIteration") [] >>= _) _ _ _
  refine wpAny_bind ?_
  simp only [newExc, newTuple]
  refine wpAny_bind (wpAny_newObj_type ?_ (by size_fits))
  refine wpAny_bind (m := firstArgMember _ _) (wpAny_of_eq (a := Value.none) (by first | rfl | (simp only [firstArgMember]; rfl)) ?_)
  refine wpAny_newObj_type ?_ (by size_fits)
  simp only [raiseNew]
  refine wpAny_bind (wpAny_handled ?_)
  rw [show A.in1.handled = none from hh]
  refine wpAny_bind (wpAny_pure (wpAny_throw ?_))
  refine wpAny_bind (wpAny_isInstance (T := "StopIteration") (b := true) ⟨_, Heap.get?_push_size _ rfl, rfl⟩ isSubtype_stop ?_)
  exact wpAny_pure (hQ _ (((Heap.SameBut.update ..).extBut.push _).push _))

structure PairsAt (h : Heap) (I a : Addr) (ts : List Addr) (val : Nat → Value × Value) (i : Nat) : Prop where
  it : h.IsListIter I a i
  seq : SeqAt h a (ts.map Value.ref).toArray
  tup : ∀ j T, ts[j]? = some T → h.IsTuple T #[(val j).1, (val j).2]
theorem PairsAt.keep {h h' : Heap} {I a : Addr} {ts : List Addr} {val : Nat → Value × Value} {i : Nat} (x : PairsAt h I a ts val i) (hk : ∀ b ∈ I :: a :: ts, ∀ o, h.get? b = some o → h'.get? b = some o) : PairsAt h' I a ts val i := by
  obtain ⟨⟨o, ho, r⟩, ⟨o2, n2, ho2, r2⟩, ht⟩ := x
  refine ⟨⟨o, hk _ List.mem_cons_self _ ho, r⟩, ⟨o2, n2, hk _ (by simp) _ ho2, r2⟩, fun j T hj => ?_⟩
  obtain ⟨o3, ho3, r3⟩ := ht j T hj
  exact ⟨o3, hk _ (by simp [List.mem_of_getElem? hj]) _ ho3, r3⟩
theorem walkPairs (hh : A.handled = none) (I a : Addr) (ts : List Addr) (val : Nat → Value × Value) (hIa : I ≠ a) (hIt : I ∉ ts) :
    WalksU prog w A I (I :: a :: ts) [I] ts.length (fun i vals => i < ts.length ∧ vals = #[(val i).1, (val i).2]) (fun i h => PairsAt h I a ts val i) (fun i T h => ts[i]? = some T ∧ PairsAt h I a ts val (i + 1)) where
  sub := fun b hb => by simp at hb; simp [hb]
  frame := fun i h h' st hk => st.keep hk
  item := fun i s Q E hi st hQ => by
    have hT : ts[i]? = some ts[i] := List.getElem?_eq_getElem hi
    refine own_next st.it st.seq (x := .ref ts[i]) (by simp [hi]) fun h' hit' hs' => ?_
    obtain ⟨o2, n2, ho2, r2⟩ := st.seq
    have ne : ∀ T ∈ ts, T ≠ I := fun T hT e => hIt (e ▸ hT)
    have st' : PairsAt h' I a ts val (i + 1) := ⟨hit', ⟨o2, n2, hs'.extBut _ _ (Ne.symm hIa) ho2, r2⟩, fun j T hj => by
      obtain ⟨o3, ho3, r3⟩ := st.tup j T hj
      exact ⟨o3, hs'.extBut _ _ (ne T (List.mem_of_getElem? hj)) ho3, r3⟩⟩
    exact hQ _ _ h' s.toks ⟨hi, rfl⟩ (st'.tup i _ hT) ⟨hT, st'⟩ fun b o hb e => hs'.extBut b o (fun h => hb (by simp [h])) e
  go := fun elts k pos i T s Q E hm hQ => by
    obtain ⟨hT, st⟩ := hm
    obtain ⟨o, ho, hc, hd⟩ := st.it
    unfold letOwnedTupleGo
    refine wpAny_bind (wpAny_load ho ?_)
    rw [hc, hd]
    show wpAny _ A (if (["enumerate", "zip", "dict_itemiterator", "dict_reverseitemiterator", "odict_iterator", "itertools.zip_longest", "itertools.pairwise"].contains "list_iterator" && _) = true then _ else _) Q E s
    rw [if_neg (by rw [show ["enumerate", "zip", "dict_itemiterator", "dict_reverseitemiterator", "odict_iterator", "itertools.zip_longest", "itertools.pairwise"].contains "list_iterator" = false by decide, Bool.false_and]; exact Bool.false_ne_true)]
    exact wpAny_pure (hQ s.heap st fun b o _ e => e)
  apart := fun i T h hm hw => by
    have : T = I := by simpa using hw
    exact hIt (this ▸ List.mem_of_getElem? hm.1)
  done := fun s Q E st hQ => own_end hh st.it st.seq (by simp) fun h' he' => hQ h' s.toks fun b o hb e => he' b o (fun h => hb (by simp [h])) e
  self := fun _ _ _ _ st hQ => wpAny_pyIter_listiter st.it hQ
end
/-- iter() of an own list -/
theorem own_iter (C : AccB X) {A : Around} {E : Value → Shared → Prop} {s : Shared} {x d : Addr} {vs : List Value} {n : Nat} {Q : Value → Shared → Prop} (K : X.K.In s.heap) (hx : s.heap.get? x = some (accObj X d vs n))
    (h : Q (.ref s.heap.objs.size) { s with heap := s.heap.push { cls := .type "list_iterator", data := .fields #[.ref x, .int 0 0] } }) : wpAny X.M A (pyIter (.ref x)) Q E s := by
  have ty : Looks X.M s.heap (typeOf (.ref x)) (.ref X.accCls) := (Looks.ld hx).andThen .now
  unfold pyIter specialOf
  refine wpAny_bind (wpAny_bind (ty.here ((looks_findIn K C.iter.find).here ?_)))
  dsimp only
  unfold callSpecialIfBoundUnlessNone?
  have bs : ∀ {Q' : Option (Value × List Value) → Shared → Prop}, Q' (some (.builtin "list.__iter__", [.ref x])) s → wpAny X.M A (bindSpecialIfBound? (.ref x) (Str.ofString "__iter__")) Q' E s := by
    intro Q' q
    unfold bindSpecialIfBound? specialOf
    refine wpAny_bind (wpAny_bind (ty.here ((looks_findIn K C.iter.find).here ?_)))
    dsimp only
    rw [C.iter.bind]
    refine wpAny_bind (wpAny_askSetting ?_)
    split
    · exact wpAny_bind (wpAny_pure (wpAny_pure q))
    · exact wpAny_tryCatch (wpAny_bind (wpAny_pure (wpAny_pure q)))
  refine wpAny_bind (wpAny_holding (wpAny_bind (bs ?_)))
  dsimp only
  rw [if_neg (by decide)]
  refine wpAny_bind (own_call C.toAccCls C.iter K hx rfl (args_list_iter _) (body_iter ⟨_, rfl, wpAny_pure ?_⟩))
  dsimp only
  refine wpAny_bind (wpAny_bind (wpAny_typeOf (T := "list_iterator") ⟨_, Heap.get?_push_size _ rfl, rfl⟩ ?_))
  rw [slot_listiter_next.lookup]
  exact wpAny_pure (wpAny_pure h)
end Mine

end
section
open PySem PySem.W PyProof.Rows
set_option Elab.async false
set_option linter.unusedVariables false
set_option maxRecDepth 100000
set_option maxHeartbeats 1000000
namespace Mine
variable {X : Txt}

theorem HRel.grow (T : X.Ok) {W : Map} {σ : Sto} {s : Shared} {h' : Heap} {g' : Array GenState} (R : HRel X W σ s) (e : ∀ b o, s.heap.get? b = some o → h'.get? b = some o) (hg : AllBare g') (t : Nat) : HRel X W σ { s with heap := h', gens := g', toks := t } :=
  ⟨fun a => (R.ok a).mono T (fun _ _ h => h) (e a), R.old, R.tab, R.cel, R.os, hg⟩
theorem HRel.movedG (T : X.Ok) {W : Map} {σ : Sto} {s s' : Shared} {wr : List Addr} {g : Nat} (R : HRel X W σ s) (m : Moved wr (GenOnlyQ g) s s') (hw : ∀ b ∈ wr, W b = .no) : HRel X W σ s' := by
  have nw : ∀ b, W b ≠ .no → b ∉ wr := fun b hb hm => hb (hw b hm)
  refine ⟨fun a => ?_, R.old, R.tab, R.cel, m.os.trans R.os, R.gens.moved m.gens⟩
  by_cases h : W a = .no
  · rw [h]; trivial
  · exact (R.ok a).mono T (fun _ _ h => h) (fun o e => m.heap a o (nw a h) e)
theorem FOk.movedG {W : Map} {σ : Sto} {env : Env} {ρ : Loc} {s s' : Shared} {wr : List Addr} {G : Array GenState → Array GenState → Prop} (R : HRel X W σ s) (F : FOk W env ρ s.heap) (m : Moved wr G s s') (hw : ∀ b ∈ wr, W b = .no) : FOk W env ρ s'.heap :=
  F.go (Le.refl W) fun b hb => by
    have hs : W b ≠ .no := by rcases hb with e | ⟨o, e⟩ <;> rw [e] <;> intro h <;> cases h
    obtain ⟨o', ho⟩ := (R.ok b).some hs
    rw [ho]; exact m.heap _ _ (fun hm => hs (hw b hm)) ho

/-- a def that makes a generator: its code, and the table of its code -/
inductive GenCodeOk (K : Frag) (cv : Value) (P : Addr) : Prop
  | mk (c : Addr) (oc : Obj) (vs : Array Value) (file : Str) (tf : Tok) (flags : Int) (tg : Tok) (inF : Bool) (text : Int) (tt : Tok) (e1 : cv = .ref c) (e2 : K.lookup c = some oc) (e3 : oc.cls = .type "code") (e4 : oc.data = .fields vs) (e5 : vs[11]? = some (.ref P))
    (e6 : vs.getD 18 .none = .str file tf) (e7 : vs.getD 7 .none = .int flags tg) (e8 : vs.getD 9 .none = .bool inF) (e9 : vs.getD 10 .none = .int text tt) (ne : c ≠ P)
structure GenFn (X : Txt) (fd : FuncData) (P : Addr) : Prop where
  tab : P ∈ X.tabs
  code : GenCodeOk X.K fd.code P
  ok : ∀ W vs, X.tabP P W vs → TriplesOk vs.toList
  more : ∀ W vs l c a, X.tabP P W vs → X.tabP P W (vs ++ #[rawInt l, rawInt c, .ref a])

theorem genCode (T : X.Ok) {A : Around} {E : Value → Shared → Prop} {W : Map} {σ : Sto} {s : Shared} {env : Env} {fd : FuncData} {P : Addr} {pos : Pos} {qn : Str} {scope : Scope} {Q : Value → Shared → Prop} (G : GenFn X fd P) (R : HRel X W σ s) (hc : env.code = fd.code)
    (hQ : ∀ code h' tk, Heap.ExtBut P s.heap h' → s.heap.objs.size ≤ h'.objs.size → HRel X W σ { s with heap := h', toks := tk } → Q code { s with heap := h', toks := tk }) : wpAny X.M A (genexprCode env pos qn scope) Q E s := by
  obtain ⟨c, oc, vs, file, tf, flags, tg, inF, text, tt, hcc, hoc, hcl, hdt, h11, h18, h7, h9, h10, hne⟩ := G.code
  have hWt := R.tab P G.tab
  have hP := R.ok P
  rw [hWt] at hP
  obtain ⟨ps, hps, htp⟩ := hP
  have ho := R.K T _ _ hoc
  have h11' : vs.getD 11 .none = .ref P := by rw [Array.getD_eq_getD_getElem?, h11]; rfl
  have code : s.heap.IsCode c P ps := ⟨oc, vs, file, tf, flags, tg, inF, text, tt, _, ho, hdt, h11', h18, h7, h9, h10, hps, rfl, G.ok _ _ htp, hne⟩
  have tab : s.heap.TableAt c P ps := ⟨⟨oc, vs, ho, hcl, hdt, h11⟩, hps⟩
  have hec : env.code = .ref c := hc.trans hcc
  cases hnf : codeAmong pos ps.toList with
  | some cv =>
    unfold genexprCode codeAt
    rw [hec, if_neg (show ¬ ((Value.ref c == Value.none) = true) from Bool.false_ne_true)]
    refine wpAny_bind (wpAny_fieldsOf ho hdt ?_)
    rw [h11']
    refine wpAny_bind (wpAny_fieldsOf hps rfl ?_)
    rw [hnf]
    exact wpAny_pure (hQ cv s.heap s.toks (Heap.ExtBut.refl _ _) (Nat.le_refl _) R)
  | none =>
    refine wpAny_genexprCodeX hec code tab hnf fun c' h' tk hx hge hlt _ _ htab _ => ?_
    refine hQ _ h' tk hx (Nat.le_trans hge (Nat.le_of_lt hlt)) ?_
    refine ⟨fun b => ?_, R.old, R.tab, R.cel, R.os, R.gens⟩
    by_cases hb : b = P
    · subst hb; rw [hWt]; exact ⟨_, htab.2, G.more _ _ _ _ _ htp⟩
    · exact (R.ok b).mono T (fun _ _ h => h) (fun o e => hx b o hb e)
theorem FOk.extP {W : Map} {σ : Sto} {env : Env} {ρ : Loc} {s : Shared} {h' : Heap} {P : Addr} (R : HRel X W σ s) (F : FOk W env ρ s.heap) (ht : W P = .tab) (hx : Heap.ExtBut P s.heap h') : FOk W env ρ h' :=
  F.go (Le.refl W) fun b hb => by
    have hs : W b ≠ .no := by rcases hb with e | ⟨o, e⟩ <;> rw [e] <;> intro h <;> cases h
    obtain ⟨o', ho⟩ := (R.ok b).some hs
    rw [ho]; refine hx _ _ ?_ ho
    rintro rfl
    rcases hb with e | ⟨o, e⟩ <;> rw [ht] at e <;> cases e

/-- pairs of texts -/
noncomputable abbrev row2 (r : Str × Str) : PV := .tup [.str r.1, .str r.2]
theorem pairs_rel {W : Map} : ∀ {rows : List (Str × Str)} {us : List Value}, VRels W (rows.map row2) us → ∃ (ts : List Addr) (val : Nat → Value × Value), us = ts.map Value.ref ∧ ts.length = rows.length ∧
    (∀ j T, ts[j]? = some T → ∃ n, W T = .fro (tupObj [(val j).1, (val j).2] n)) ∧ ∀ j r, rows[j]? = some r → ∃ t t', val j = (.str r.1 t, .str r.2 t') ∧ r.1.length ≤ sizeLine ∧ r.2.length ≤ sizeLine
  | [], _, h => by cases h; exact ⟨[], fun _ => (.none, .none), rfl, rfl, fun j T h => by simp at h, fun j r h => by simp at h⟩
  | r :: rows, _, ⟨v, us, rfl, hv, hr⟩ => by
    obtain ⟨ts, val, rfl, hl, h1, h2⟩ := pairs_rel hr
    obtain ⟨T, ws, n, rfl, hW, _, ⟨v1, _, rfl, ⟨z1, t1, rfl⟩, ⟨v2, _, rfl, ⟨z2, t2, rfl⟩, rfl⟩⟩⟩ := hv
    refine ⟨T :: ts, fun j => match j with | 0 => (.str r.1 t1, .str r.2 t2) | j + 1 => val j, rfl, by simp [hl], fun j T' hj => ?_, fun j r' hj => ?_⟩
    · cases j with
      | zero => simp at hj; subst hj; exact ⟨n, hW⟩
      | succ j => exact h1 j T' (by simpa using hj)
    · cases j with
      | zero => simp at hj; subst hj; exact ⟨t1, t2, rfl, z1, z2⟩
      | succ j => exact h2 j r' (by simpa using hj)
end Mine

end
section
open PySem PySem.W PyProof.Rows
set_option Elab.async false
set_option linter.unusedVariables false
set_option maxRecDepth 100000
set_option maxHeartbeats 1000000
namespace Mine
variable {X : Txt}

structure GenHere (X : Txt) (A : Around) (ga : Addr) (n : Nat) (F : Nat → Value → Prop) (W : Map) (s : Shared) : Prop where
  here : ∃ fp wr g St, WalksS X.prog X.w A.in4 ga fp wr (GenOnlyQ g) n F St ∧ St 0 s ∧ (∀ i s', St i s' → s'.TypeIs (.ref ga) "generator") ∧ ga ∈ fp ∧ (∀ b ∈ fp, b < s.heap.objs.size) ∧ ∀ b ∈ wr, W b = .no

theorem passing_all (n : Nat) : passing (fun _ => true) n 0 = List.range n := by simp [passing]

structure GenMod (X : Txt) : Prop where
  mod : ∃ bm ob, BMod X.h₁ mainGlobals X.mg bm ob ∧ bm ∉ X.tabs

/-- what an element gives -/
noncomputable def ElemOk (X : Txt) (scope : Scope) (xa xb : Str) (elt : Expr) (Fe : Str → Str → Value → Prop) : Prop :=
  ∀ (cenv : Env) (A' : Around) (E' : Value → Shared → Prop) (s₂ : Shared) (m₂ : Str → Option Value) (x y : Str) (t t' : Tok), A'.handled = none → cenv.scope = scope → cenv.globals = mainGlobals → cenv.builtins = builtinsNs → s₂.heap.Ns mainGlobals X.mg → s₂.heap.Ns builtinsNs X.mb →
    s₂.heap.Ns cenv.locals m₂ → m₂ xa = some (.str x t) → m₂ xb = some (.str y t') → x.length ≤ 1000 → y.length ≤ 1000 → wpAny X.M A' (eval elt cenv) (fun v s₃ => Fe x y v ∧ Keeps s₂ s₃) E' s₂

theorem ex9 {A1 A2 A3 A4 A5 A6 A7 A8 A9 : Type} {P : A1 → A2 → A3 → A4 → A5 → A6 → A7 → A8 → A9 → Prop} (a1 : A1) (a2 : A2) (a3 : A3) (a4 : A4) (a5 : A5) (a6 : A6) (a7 : A7) (a8 : A8) (a9 : A9) (h : P a1 a2 a3 a4 a5 a6 a7 a8 a9) :
    ∃ x1 x2 x3 x4 x5 x6 x7 x8 x9, P x1 x2 x3 x4 x5 x6 x7 x8 x9 := ⟨a1, a2, a3, a4, a5, a6, a7, a8, a9, h⟩
theorem gen_make (T : X.Ok) (C : AccB X) (B : GenMod X) {fd : FuncData} {P fa : Addr} (G : GenFn X fd P) {k : Nat} {A : Around} {E : Value → Shared → Prop} {W : Map} {σ : Sto} {s : Shared} {env : Env} {ρ : Loc} {elt : Expr} {scope : Scope} {pos ps pa pb pt : Pos} {kt : Nat} {xa xb : Str} {a d : Addr} {rows : List (Str × Str)} {Fe : Str → Str → Value → Prop} {Q : Value → Shared → Prop}
    (H : SupEnv fa fd env) (hco : scope.isCoroutine = false) (hfree : ∀ y ∈ scope.names, y.2 ≠ .free) (hcell : ∀ y ∈ scope.names, y.2 ≠ .cell) (h0 : scope.names.lookup (".0" : Str) = some NameKind.local)
    (hxa : scope.names.lookup xa = some .local) (hxb : scope.names.lookup xb = some .local) (hab : xa ≠ xb) (hkind : scope.kind = .function) (helt : ElemOk X scope xa xb elt Fe)
    (hks : env.kindOf "self" = some .local) (hself : ρ "self" = some (.ptr a)) (ha : σ a = some (.acc d (rows.map row2))) (hsh : ∀ r ∈ rows, r.1.length ≤ 1000 ∧ r.2.length ≤ 1000) (aa : AOk (k + 1) A) (R : HRel X W σ s) (F : FOk W env ρ s.heap)
    (h : ∀ ga s', HRel X W σ s' → FOk W env ρ s'.heap → GenHere X A ga rows.length (fun j y => ∃ r, rows[j]? = some r ∧ Fe r.1 r.2 y) W s' → Q (.ref ga) s') :
    wpAny X.M A (eval (.GeneratorExp elt [⟨.Tuple [.Name xa pa, .Name xb pb] kt pt, .Name "self" ps, [], 0⟩] scope pos) env) Q E s := by
  refine wpAny_GeneratorExp_walksQTD aa.handled hco (closureFor_none hfree) hcell h0 hxa hxb hab hkind aa.lim ?_ (fun x => rfl)
  obtain ⟨ml, hn, hm⟩ := F.ns
  obtain ⟨v, h1, h2⟩ := hm "self" _ hks hself
  cases h2
  refine wpAny_Name (wpAny_loadName_local F.kind hks hn h1 ?_) (by decide)
  have hWa := (R.cel a _).mp ha
  obtain ⟨us, n, ho, z, q⟩ := R.at' hWa
  obtain ⟨ts, val, rfl, hlen, htup, hval⟩ := pairs_rel q
  have ha_lt : a < s.heap.objs.size := Heap.lt_size ho
  refine own_iter C (R.K T) ho ?_
  have keep1 : ∀ b o, s.heap.get? b = some o → (s.heap.push { cls := .type "list_iterator", data := .fields #[.ref a, .int 0 0] }).get? b = some o := fun b o e => Heap.get?_push_of_some _ e
  have R2 : HRel X W σ { s with heap := s.heap.push { cls := .type "list_iterator", data := .fields #[.ref a, .int 0 0] } } := R.ext T keep1 s.toks
  have F2 : FOk W env ρ (s.heap.push { cls := .type "list_iterator", data := .fields #[.ref a, .int 0 0] }) := FOk.ext R F keep1
  have hI : (s.heap.push { cls := .type "list_iterator", data := .fields #[.ref a, .int 0 0] }).get? s.heap.objs.size = some { cls := .type "list_iterator", data := .fields #[.ref a, .int 0 0] } := Heap.get?_push_size _ rfl
  have hsz2 : (s.heap.push { cls := .type "list_iterator", data := .fields #[.ref a, .int 0 0] }).objs.size = s.heap.objs.size + 1 := Heap.size_push ..
  generalize hh2 : s.heap.push { cls := .type "list_iterator", data := .fields #[.ref a, .int 0 0] } = h2 at R2 F2 hI hsz2 keep1 ⊢
  have hWt := R.tab P G.tab
  refine ⟨R2.limit T, genCode T G R2 H.code fun code h3 tk3 hx3 hsz3 R3 => ?_⟩
  have F3 : FOk W env ρ h3 := FOk.extP R2 F2 hWt hx3
  obtain ⟨bm, ob, Bm, hbm⟩ := B.mod
  have hsz3' : s.heap.objs.size + 1 ≤ h3.objs.size := by have e : h2.objs.size ≤ h3.objs.size := hsz3; rw [hsz2] at e; exact e
  clear hsz3
  have g3 : h3.Ns mainGlobals X.mg := R3.g T
  have b3 : h3.Ns builtinsNs X.mb := R3.b T
  have hob : h3.get? bm = some ob := R3.fro (R.old bm ob Bm.obj hbm)
  have hPlt : P < s.heap.objs.size := R.lt (a := P) (by rw [hWt]; intro e; cases e)
  have hIP : s.heap.objs.size ≠ P := Nat.ne_of_gt hPlt
  have hT : ∀ j T', ts[j]? = some T' → T' < s.heap.objs.size ∧ s.heap.IsTuple T' #[(val j).1, (val j).2] ∧ T' ≠ P := fun j T' hj => by
    obtain ⟨m, hW'⟩ := htup j T' hj
    have e := R.fro hW'
    exact ⟨Heap.lt_size e, ⟨_, e, rfl, m, rfl⟩, by rintro rfl; rw [hWt] at hW'; cases hW'⟩
  have hTm : ∀ T' ∈ ts, T' < s.heap.objs.size := fun T' hm => by
    obtain ⟨j, hj⟩ := List.mem_iff_getElem?.mp hm; exact (hT j T' hj).1
  have hIt : s.heap.objs.size ∉ ts := fun hm => Nat.lt_irrefl _ (hTm _ hm)
  have haP : a ≠ P := by rintro rfl; rw [hWa] at hWt; cases hWt
  have P0 : PairsAt h3 s.heap.objs.size a ts val 0 := by
    refine ⟨⟨_, hx3 _ _ hIP hI, rfl, rfl⟩, ⟨_, _, hx3 _ _ haP (keep1 _ _ ho), rfl⟩, fun j T' hj => ?_⟩
    obtain ⟨_, ⟨o, e, r⟩, hne⟩ := hT j T' hj
    exact ⟨o, hx3 _ _ hne (keep1 _ _ e), r⟩
  refine wpAny_builtinsFor (m := X.mg) (by rw [F.glb]; exact g3) Bm.name Bm.ne hob Bm.cls Bm.dict Bm.data ?_
  have hg1 : mainGlobals < h3.objs.size := g3.lt
  have hb1 : builtinsNs < h3.objs.size := b3.lt
  have wI : W s.heap.objs.size = .no := R.new
  refine ex9 s.heap.objs.size (s.heap.objs.size :: a :: ts) [s.heap.objs.size] ts.length _ _ _ (fun _ => true) (fun i y => ∃ r, rows[i]? = some r ∧ Fe r.1 r.2 y) ⟨rfl, fun A' hA => walkPairs hA _ a ts val (Nat.ne_of_gt ha_lt) hIt, fun i vals e => ⟨_, _, e.2⟩, P0, ?_, R3.limit T, ?_, ?_, ?_⟩
  · intro b hb
    show b < h3.objs.size
    have lt3 : ∀ c : Addr, c < s.heap.objs.size → c < h3.objs.size := fun c hc => Nat.lt_of_lt_of_le hc (Nat.le_of_succ_le hsz3')
    rcases List.mem_cons.mp hb with rfl | hb
    · exact hsz3'
    · rcases List.mem_cons.mp hb with rfl | hb
      · exact lt3 _ ha_lt
      · exact lt3 _ (hTm b hb)
  · intro hm
    have e : cStatics = s.heap.objs.size := by simpa using hm
    have hlim := R.limit T
    obtain ⟨_, hn', _⟩ := hlim
    have hl := hn'.lt
    rw [e] at hl
    exact Nat.lt_irrefl _ hl
  · intro href hhref
    have look : ∀ (s₂ : Shared), (∀ b ∈ List.range h3.objs.size, b ∉ [s.heap.objs.size] → ∀ o, href.get? b = some o → s₂.heap.get? b = some o) → s₂.heap.Ns mainGlobals X.mg ∧ s₂.heap.Ns builtinsNs X.mb := fun s₂ hk => by
      have old : ∀ b, b < s.heap.objs.size → ∀ o, h3.get? b = some o → s₂.heap.get? b = some o := fun b hb o e => hk b (List.mem_range.mpr (Nat.lt_of_lt_of_le hb (Nat.le_of_succ_le hsz3'))) (by simp; exact Nat.ne_of_lt hb) o (hhref b o e)
      refine ⟨g3.at' fun o e => old _ (R.g T).lt o e, b3.at' fun o e => old _ (R.b T).lt o e⟩
    refine ⟨fun A' E' i va vb s₂ m₂ hA _ _ _ _ _ _ _ => wpAny_pure ⟨rfl, _, _, rfl, fun _ _ e => e⟩, fun A' E' i va vb s₂ m₂ hA _ _ hp _ hns hma hmb hk => ?_⟩
    obtain ⟨hg2, hb2⟩ := look s₂ hk
    obtain ⟨hi, hvv⟩ := hp
    have e1 : va = (val i).1 := by have := congrArg (·[0]?) hvv; simpa using this
    have e2 : vb = (val i).2 := by have := congrArg (·[1]?) hvv; simpa using this
    subst e1; subst e2
    cases hr : rows[i]? with
    | none => rw [List.getElem?_eq_none_iff] at hr; omega
    | some r =>
      obtain ⟨t, t', hv, z1, z2⟩ := hval i r hr
      rw [hv] at hma hmb
      exact wpAny_mono (helt _ A' E' s₂ m₂ r.1 r.2 t t' hA rfl F.glb rfl hg2 hb2 hns hma hmb (hsh r (List.mem_of_getElem? hr)).1 (hsh r (List.mem_of_getElem? hr)).2) (fun y s₃ hy => ⟨⟨r, rfl, hy.1⟩, hy.2⟩) fun _ _ e => e
  · intro ga h5 tk gs hgs hlt hsz5 hk5 WS GA
    have keep5 : ∀ b o, h3.get? b = some o → h5.get? b = some o := hk5
    rw [passing_all] at WS
    have WS' := WS.imp (P' := fun j y => ∃ r, rows[j]? = some r ∧ Fe r.1 r.2 y) fun j y hy => by
      obtain ⟨i, hi, hF⟩ := hy
      have : i = j := by
        have h1 := List.getElem?_eq_some_iff.mp hi
        obtain ⟨hj, he⟩ := h1
        simpa using he.symm
      subst this; exact hF
    rw [List.length_range, hlen] at WS'
    rw [hlen] at GA
    refine h ga _ (HRel.grow T R3 keep5 (R3.gens.push hgs) tk) (FOk.ext R3 F3 keep5) ⟨_, _, _, _, WS', GA, fun i s' st => st.1.typeIs, List.mem_cons_self, ?_, ?_⟩
    · intro b hb
      show b < h5.objs.size
      have hlt' : h3.objs.size < ga := hlt
      rw [hsz5]
      rcases List.mem_cons.mp hb with rfl | hb
      · exact Nat.lt_succ_self _
      · rcases List.mem_cons.mp hb with rfl | hb
        · exact Nat.lt_succ_of_lt hlt'
        · exact Nat.lt_succ_of_lt (Nat.lt_trans (List.mem_range.mp hb) hlt')
    · intro b hb
      rcases List.mem_cons.mp hb with rfl | hb
      · exact R.above (Nat.le_of_succ_le hsz3')
      · have : b = s.heap.objs.size := by simpa using hb
        rw [this]; exact wI
end Mine

end
section
open PySem PySem.W PyProof.Rows
set_option Elab.async false
set_option linter.unusedVariables false
set_option maxRecDepth 100000
set_option maxHeartbeats 1000000
namespace Mine
variable {X : Txt}
section
variable {A : Around} {E : Value → Shared → Prop} {s : Shared} {env : Env}
theorem gname {n : Str} {v : Value} {p : Pos} {Q : Value → Shared → Prop} (hkd : env.scope.kind = .function) (hg : env.globals = mainGlobals) (hb : env.builtins = builtinsNs) (g : s.heap.Ns mainGlobals X.mg) (b : s.heap.Ns builtinsNs X.mb)
    (hk : env.kindOf n = some .globalImplicit) (hv : X.glob n = some v) (hd : (n == ("__debug__" : Str)) = false) (h : Q v s) : wpAny X.M A (eval (.Name n p) env) Q E s := by
  refine Calls.Name_function_global hkd hk ?_ hd
  unfold Txt.glob at hv
  cases e : X.mg n with
  | some u => rw [e] at hv; cases hv; exact Calls.loadGlobal_global (by rw [hg]; exact g) e h
  | none => rw [e] at hv; exact Calls.loadGlobal_builtin (by rw [hg]; exact g) e (by rw [hb]; exact b) hv h
/-- a builtin called with one plain argument -/
theorem callB1 {n id : Str} {fid : String} {p pos : Pos} {e : Expr} {Q : Value → Shared → Prop} (hkd : env.scope.kind = .function) (hg : env.globals = mainGlobals) (hb : env.builtins = builtinsNs) (g : s.heap.Ns mainGlobals X.mg) (b : s.heap.Ns builtinsNs X.mb)
    (hk : env.kindOf n = some .globalImplicit) (hv : X.glob n = some (.builtin fid)) (hd : (n == ("__debug__" : Str)) = false) (hs : starEach [e] env = [(false, eval e env)])
    (h : wpAny X.M A (eval e env) (fun v s1 => wpAny X.M A (call (.builtin fid) [v]) Q E s1) E s) : wpAny X.M A (eval (.Call (.Name n p) [e] [] pos) env) Q E s := by
  refine wpAny_Call_ofName (gname hkd hg hb g b hk hv hd ?_)
  rw [hs]
  refine callWith_of (P := fun _ => True) rfl (fun hp _ => ⟨.machine, .inr (.inl rfl), Looks.of_pure rfl⟩) ?_
  refine Calls.evalArgs_plain (Calls.spliced_cons (wpAny_mono h (fun v s1 h1 => ?_) fun _ _ e => e))
  exact Calls.spliced_nil ⟨trivial, h1⟩
end
/-- `len(a) + len(b)` -/
theorem elem_len {scope : Scope} {xa xb : Str} {p1 p2 p3 p4 p5 p6 pos : Pos} (hkd : scope.kind = .function) (hxa : scope.names.lookup xa = some .local) (hxb : scope.names.lookup xb = some .local) (hlen : scope.names.lookup ("len" : Str) = some .globalImplicit) (hv : X.glob "len" = some (.builtin "len"))
    (hda : (xa == ("__debug__" : Str)) = false) (hdb : (xb == ("__debug__" : Str)) = false) :
    ElemOk X scope xa xb (.BinOp (.Call (.Name "len" p1) [.Name xa p2] [] p3) .Add (.Call (.Name "len" p4) [.Name xb p5] [] p6) pos) (fun x y v => ∃ t, v = .int ((x.length : Int) + y.length) t) := by
  intro cenv A' E' s₂ m₂ x y t t' hA hsc hg hb g b hns ha hb2 hx hy
  have kd : ∀ n, cenv.kindOf n = scope.names.lookup n := fun n => by show cenv.scope.names.lookup n = _; rw [hsc]
  have hkd' : cenv.scope.kind = .function := by rw [hsc]; exact hkd
  refine wpAny_BinOp ?_
  refine callB1 (id := "len") hkd' hg hb g b (by rw [kd]; exact hlen) hv (by decide) rfl ?_
  refine wpAny_Name (wpAny_loadName_local hkd' (by rw [kd]; exact hxa) hns ha ?_) hda
  refine PySem.P.len_str (by lia) ?_
  refine callB1 (id := "len") hkd' hg hb g b (by rw [kd]; exact hlen) hv (by decide) rfl ?_
  refine wpAny_Name (wpAny_loadName_local hkd' (by rw [kd]; exact hxb) hns hb2 ?_) hdb
  refine PySem.P.len_str (by lia) ?_
  refine wpAny_add_int ⟨⟨_, rfl⟩, _, _, rfl, fun _ _ e => e⟩
/-- `E.join((a, b))`, E the empty text -/
theorem elem_join {scope : Scope} {xa xb n : Str} {tk : Tok} {p1 p2 p3 p4 p5 pos : Pos} {j : Nat} (hkd : scope.kind = .function) (hxa : scope.names.lookup xa = some .local) (hxb : scope.names.lookup xb = some .local) (hn : scope.names.lookup n = some .globalImplicit) (hv : X.glob n = some (.str Str.empty tk))
    (hda : (xa == ("__debug__" : Str)) = false) (hdb : (xb == ("__debug__" : Str)) = false) (hdn : (n == ("__debug__" : Str)) = false) (hline : (p2.endLine == pos.line) = true) :
    ElemOk X scope xa xb (.Call (.Attribute (.Name n p1) "join" p2) [.Tuple [.Name xa p3, .Name xb p4] j p5] [] pos) (fun x y v => ∃ t, v = .str (x ++ y) t) := by
  intro cenv A' E' s₂ m₂ x y t t' hA hsc hg hb g b hns ha hb2 hx hy
  have kd : ∀ n, cenv.kindOf n = scope.names.lookup n := fun n => by show cenv.scope.names.lookup n = _; rw [hsc]
  have hkd' : cenv.scope.kind = .function := by rw [hsc]; exact hkd
  refine Call_method1 rfl rfl hline ?_
  refine gname hkd' hg hb g b (by rw [kd]; exact hn) hv hdn ?_
  refine ⟨"str", "str.join", F.plainAttrs_str, F.slot_str_join, F.type_str_join, typeIs_str _ _ _, (fun a e => by cases e), ?_⟩
  refine callWith_of (P := fun _ => True) rfl (fun hp _ => ⟨.machine, .inr (.inl rfl), Looks.of_pure rfl⟩) ?_
  refine Calls.evalArgs_plain (Calls.spliced_cons ?_)
  refine wpAny_Tuple (Calls.spliced_cons ?_)
  refine wpAny_Name (wpAny_loadName_local hkd' (by rw [kd]; exact hxa) hns ha ?_) hda
  refine Calls.spliced_cons ?_
  refine wpAny_Name (wpAny_loadName_local hkd' (by rw [kd]; exact hxb) hns hb2 ?_) hdb
  refine Calls.spliced_nil ?_
  have hz := sl_big
  refine ⟨by simp; lia, Calls.spliced_nil ⟨trivial, ?_⟩⟩
  have hl : Builtin.Str.tooLong (([(x, t), (y, t')].map (·.1)).toArray.foldl (· + ·.length + (Str.empty : Str).length) 0) = false := by
    have e0 : (Str.empty : Str).length = 0 := rfl
    unfold Builtin.Str.tooLong
    simp only [List.map_cons, List.map_nil, List.foldl_toArray', List.foldl_cons, List.foldl_nil, decide_eq_false_iff_not, e0]
    lia
  refine call_meets F.slot_str_join (typeIs_str _ _ _) F.entry_str_join (F.args_str_join_2 _ _) (meets_str_join_tuple Str.empty tk _ [(x, t), (y, t')] hl) ⟨⟨_, _, Heap.get?_push_size _ rfl, rfl, rfl⟩, ?_⟩
  have hj : Str.join Str.empty [x, y] = x ++ y := by
    show x ++ Str.empty ++ Str.join Str.empty [y] = _
    rw [Str.append_empty]; rfl
  refine joinMade_post (by rw [show [(x, t), (y, t')].map (·.1) = [x, y] from rfl, hj, Str.length_append]; lia) fun t'' k => ?_
  refine ⟨⟨t'', ?_⟩, _, _, rfl, fun b o e => Heap.get?_push_of_some _ e⟩
  rw [show [(x, t), (y, t')].map (·.1) = [x, y] from rfl, hj]
end Mine

end
section
open PySem PySem.W PyProof.Rows
set_option Elab.async false
set_option linter.unusedVariables false
set_option maxRecDepth 100000
set_option maxHeartbeats 1000000
namespace Mine
variable {X : Txt}
theorem args_sum2 (a b : Value) : argsOk "sum" ⟨[a, b], []⟩ := by unfold argsOk; kernel_rfl
section
variable {prog : Program} {w : World} {A : Around} {E : Value → Shared → Prop} {s : Shared} {I : Addr} {fp wr : List Addr} {G : Array GenState → Array GenState → Prop} {n : Nat} {P : Nat → Value → Prop} {St : Nat → Shared → Prop}
theorem walkLater (W : WalksS prog w A I fp wr G n P St) : WalksS prog w A I fp wr G (n + 1) (fun i v => match i with | 0 => False | j + 1 => P j v) (fun i s => match i with | 0 => False | j + 1 => St j s) where
  sub := W.sub
  grefl := W.grefl
  gtrans := W.gtrans
  frame := fun i s h' tk st ht hk => by cases i with | zero => exact st | succ j => exact W.frame j s h' tk st ht hk
  item := fun i s Q E hi st hQ => by cases i with | zero => exact st.elim | succ j => exact W.item j s Q E (by lia) st fun v s' hp st' hm => hQ v s' hp st' hm
  done := fun s Q E st hQ => W.done s Q E st hQ
  self := fun i s Q E st hQ => by cases i with | zero => exact st.elim | succ j => exact W.self j s Q E st hQ
theorem preSum_later (n0 : Int) (val : Nat → Int) : ∀ n, preSum (fun i => match i with | 0 => n0 | j + 1 => val j) (n + 1) = n0 + preSum val n
  | 0 => by simp [preSum]
  | n + 1 => by
    have := preSum_later n0 val n
    simp only [preSum] at this ⊢
    lia
theorem call_sum2 {n0 : Int} {tk : Tok} {val : Nat → Int} {Q : Value → Shared → Prop} (W : WalksS prog w A.in1 I fp wr G n P St) (hst : St 0 s) (hfp : ∀ b ∈ fp, b < s.heap.objs.size) (hval : ∀ i v, P i v → ∃ t, v = .int (val i) t)
    (hQ : ∀ s' t', Moved wr G s s' → Q (.int (n0 + preSum val n) t') s') : wpAny (model prog w) A (call (.builtin "sum") [.ref I, .int n0 tk]) Q E s := by
  refine call_function_tree F.kind_sum F.plain_sum F.entry_sum (args_sum2 _ _) ?_
  unfold Builtin.«sum»
  simp only [List.length_cons, List.length_nil]
  rw [if_neg (by decide)]
  refine wpAny_bind (wpAny_of_eq (show Builtin.Builtins.bindParams "sum" ["start"] 0 ⟨[.int n0 tk], []⟩ = pure [some (.int n0 tk)] from rfl) ?_)
  refine wpAny_bind (W.self 0 s _ _ hst ?_)
  dsimp only
  have tail : ∀ (st : Int) (t0 : Tok) (s₂ : Shared), (st = 0 ∨ st = 2) → s₂.heap = s.heap → s₂.gens = s.gens → s₂.drawn = s.drawn → s₂.os = s.os → s.toks ≤ s₂.toks → ∀ {K : PySem.Fin → Shared → Prop}, (∀ S : Addr, S = s.heap.objs.size → ∀ s₃ : Shared, s₃ = { s₂ with heap := s.heap.push { cls := .type "list", data := .seq #[.int n0 t0] } } → K (.again (.builtin "sum.loop" ⟨[.ref I, .ref S, rawInt st, rawInt 0], []⟩)) s₃) →
      wpAny (model prog w) A.in1 (do
        for (ty, what, hint) in [("str", "strings", "''"), ("bytes", "bytes", "b''"), ("bytearray", "bytearray", "b''")] do
          if ← isInstance (.int n0 t0) (.type ty) then
            rule "sum.start-refused"; raiseError "TypeError" s!"sum() can't sum {what} [use {hint}.join(seq) instead]"
        again (.builtin "sum.loop" ⟨[.ref I, ← newList [.int n0 t0], rawInt st, rawInt 0], []⟩)) K E s₂ := by
    intro st t0 s₂ hst2 e1 e2 e3 e4 e5 K hK
    obtain ⟨h2, g2, d2, tk2, os2⟩ := s₂
    dsimp only at e1 e2 e3 e4 e5
    subst e1 e2 e3 e4
    simp only [List.forIn_cons, List.forIn_nil]
    refine wpAny_bind (wpAny_bind (wpAny_bind (wpAny_isInstance (T := "int") (b := false) (typeIs_int _ _ _) PySem.sub_int_str ?_)))
    simp only [Bool.false_eq_true, if_false]
    refine wpAny_pure (wpAny_bind (wpAny_bind (wpAny_isInstance (T := "int") (b := false) (typeIs_int _ _ _) PySem.sub_int_bytes ?_)))
    simp only [Bool.false_eq_true, if_false]
    refine wpAny_pure (wpAny_bind (wpAny_bind (wpAny_isInstance (T := "int") (b := false) (typeIs_int _ _ _) PySem.sub_int_bytearray ?_)))
    simp only [Bool.false_eq_true, if_false]
    refine wpAny_pure (wpAny_pure ?_)
    refine wpAny_bind (wpAny_newObj_type ?_)
    exact wpAny_pure (hK _ rfl _ rfl)
  have hSf : s.heap.objs.size ∉ fp := fun hm => Nat.lt_irrefl _ (hfp _ hm)
  have val0 : preSum (fun i => match i with | 0 => n0 | j + 1 => val j) 1 = n0 := by simp [preSum]
  have fin : ∀ (st : Int) (t0 tk2 : Tok), (st = 0 ∨ st = 2) → s.toks ≤ tk2 → codeAny (model prog w) A (.builtin "sum.loop" ⟨[.ref I, .ref s.heap.objs.size, rawInt st, rawInt 0], []⟩) (fun r s' => match r with | .ok (.ret v) => Q v s' | .ok _ => False | .error e => E e s')
      { s with heap := s.heap.push { cls := .type "list", data := .seq #[.int n0 t0] }, toks := tk2 } := fun st t0 tk2 hst2 htk =>
    codeAny_sum_loopAnyS (walkLater W) (fun i => match i with | 0 => n0 | j + 1 => val j) (fun i v hp => by cases i with | zero => exact hp.elim | succ j => exact hval j v hp)
      s.heap.objs.size hSf n 1 _ t0 0 st hst2 (by lia) (by lia)
      (W.frame 0 s _ _ hst htk fun b _ o e => Heap.get?_push_of_some _ e) (by rw [val0]; exact Heap.get?_push_size _ rfl) fun s' t' hm => by
        show Q _ _
        rw [preSum_later]
        exact hQ s' t' (hm.drop_new htk)
  split
  · refine wpAny_bind (wpAny_rule (wpAny_bind (wpAny_mkInt (wpAny_bind (wpAny_pure ?_)))))
    refine tail 0 s.toks { s with toks := s.toks + 1 } (.inl rfl) rfl rfl rfl rfl (Nat.le_succ _) fun S hS s₃ hs₃ => ?_
    subst hS hs₃
    exact ⟨plainId_quiet F.plain_sum_loop _, fin 0 _ _ (.inl rfl) (Nat.le_succ _)⟩
  · refine wpAny_bind (wpAny_pure ?_)
    refine tail 2 tk s (.inr rfl) rfl rfl rfl rfl (Nat.le_refl _) fun S hS s₃ hs₃ => ?_
    subst hS hs₃
    exact ⟨plainId_quiet F.plain_sum_loop _, fin 2 _ _ (.inr rfl) (Nat.le_refl _)⟩
end
end Mine

end
section
open PySem PySem.W PyProof.Rows
set_option Elab.async false
set_option linter.unusedVariables false
set_option maxRecDepth 100000
set_option maxHeartbeats 1000000
namespace Mine
variable {X : Txt}
noncomputable def lens (rows : List (Str × Str)) : Int := (rows.map fun r => ((r.1.length : Int) + r.2.length)).sum
noncomputable def glue (rows : List (Str × Str)) : Str := Str.join Str.empty (rows.map fun r => r.1 ++ r.2)
theorem preSum_list {rows : List (Str × Str)} {val : Nat → Int} : ∀ {n : Nat}, n ≤ rows.length → (∀ j r, rows[j]? = some r → val j = (r.1.length : Int) + r.2.length) → preSum val n = lens (rows.take n)
  | 0, _, _ => by simp [preSum, lens]
  | n + 1, h, hv => by
    have ih := preSum_list (n := n) (by lia) hv
    have hn : rows[n]? = some rows[n] := List.getElem?_eq_getElem (by lia)
    have e : rows.take (n + 1) = rows.take n ++ [rows[n]] := by rw [List.take_add_one, hn]; rfl
    simp only [preSum] at ih ⊢
    rw [ih, hv n _ hn, e]
    simp only [lens, List.map_append, List.map_cons, List.map_nil, List.sum_append, List.sum_cons, List.sum_nil, Int.add_zero]
section
variable {k : Nat} {env : Env} {ρ : Loc} {σ : Sto}
theorem args_list_ga (a b : Value) : argsOk "list.__getattribute__" ⟨[a, b], []⟩ := by unfold argsOk; kernel_rfl
theorem own_get (C : AccB X) {A : Around} {E : Value → Shared → Prop} {s : Shared} {a d : Addr} {vs : List Value} {m : Nat} {od : Option Obj} {name : Str} {n : Int} {t : Tok} {Q : Value → Shared → Prop} (K : X.K.In s.heap)
    (I : InstAt s.heap a (accObj X d vs m) X.accCls od) (hx : s.heap.get? a = some (accObj X d vs m)) (hf : findObj X.K X.accCls od name = some (.value (.int n t))) (h : Q (.int n t) { s with toks := s.toks + 1 }) : wpAny X.M A (getAttr (.ref a) name true) Q E s := by
  obtain ⟨hh, g, dr, tk, os⟩ := s
  have L0 := I.type (M := X.M)
  have L1 := looks_findIn (M := X.M) K C.get
  unfold getAttr getAttrBy
  refine wpAny_bind (wpAny_mkText (wpAny_holding (wpAny_bind (L0.at (wpAny_bind (L1.at ?_))))))
  show wpAny _ _ (getAttrByItsOwn (.ref a) (.str name tk) (.ref X.accCls) (.builtin "list.__getattribute__") true true) _ _ _
  unfold getAttrByItsOwn hookBefore
  refine wpAny_bind ((looks_findIn (M := X.M) K C.getx).at ?_)
  refine wpAny_bind (wpAny_attempt (wpAny_holding ?_))
  unfold callGetattribute boundAndCalled
  rw [show (true && onTheHeap (Value.builtin "list.__getattribute__")) = false from rfl, if_neg (by decide), C.getattr.bind]
  refine wpAny_bind (wpAny_pure ?_)
  refine own_call C.toAccCls C.getattr K hx rfl (args_list_ga _ _) ?_
  unfold Builtin.«object.__getattribute__»
  refine wpAny_bind (m := slotArgs "__getattribute__" 1 _) (wpAny_pure ?_)
  refine wpAny_bind (wpAny_pure (wpAny_bind (L0.at (wpAny_bind ((looks_find (M := X.M) K I hf).at ?_)))))
  exact wpAny_pure ⟨_, rfl, wpAny_pure h⟩
theorem selfIni (T : X.Ok) (C : AccB X) {A : Around} {E : Value → Shared → Prop} {W : Map} {s : Shared} {ps pa : Pos} {a d : Addr} {xs : List PV} {n : Int} {Q : Value → Shared → Prop}
    (he : eval (.Attribute (.Name "self" ps) "_initial_size" pa) env = (do
      let o' ← eval (.Name "self" ps) env
      standAt pa.atName
      let r ← holding [o'] (getAttr o' "_initial_size" true)
      letTemporaryGo (.Name "self" ps) o' r
      pure r))
    (hks : env.kindOf "self" = some .local) (hself : ρ "self" = some (.ptr a)) (ha : σ a = some (.acc d xs)) (hd : σ d = some (.ini (some n))) (R : HRel X W σ s) (F : FOk W env ρ s.heap)
    (h : ∀ t tk, s.toks ≤ tk → Q (.int n t) { s with toks := tk }) : wpAny X.M A (eval (.Attribute (.Name "self" ps) "_initial_size" pa) env) Q E s := by
  refine Attribute_any_ ?_ he
  obtain ⟨ml, hn, hm⟩ := F.ns
  obtain ⟨v, h1, h2⟩ := hm "self" _ hks hself
  cases h2
  refine wpAny_Name (wpAny_loadName_local F.kind hks hn h1 ?_) (by decide)
  obtain ⟨vs, m, es, m', hW, hV, h1, z, q, h2, i2, I⟩ := acc_inst R ha hd
  obtain ⟨t, ht⟩ := ini_get i2
  have hK := R.K T
  have f : findObj X.K X.accCls (some (dicObj es m')) "_initial_size" = some (.value (.int n t)) := findObj_own (attr := none) C.dict C.attr rfl (by show lookIn _ _ = _; unfold lookIn dicObj; dsimp only; unfold getL at ht; exact ht)
  refine own_get C hK I h1 f (h t _ (Nat.le_succ _))
/-- sum((len(x) + len(y) for x, y in self), self._initial_size) -/
theorem TE.lenSum (T : X.Ok) (C : AccB X) (B : GenMod X) {fd : FuncData} {P fa : Addr} (G : GenFn X fd P) {elt : Expr} {scope : Scope} {pos ps pa pb pt p0 pc psl pat : Pos} {kt : Nat} {xa xb : Str} {a d : Addr} {rows : List (Str × Str)} {n : Int} {Q : PV → Sto → Prop}
    (H : SupEnv fa fd env) (hco : scope.isCoroutine = false) (hfree : ∀ y ∈ scope.names, y.2 ≠ .free) (hcell : ∀ y ∈ scope.names, y.2 ≠ .cell) (h0 : scope.names.lookup (".0" : Str) = some NameKind.local)
    (hxa : scope.names.lookup xa = some .local) (hxb : scope.names.lookup xb = some .local) (hab : xa ≠ xb) (hkind : scope.kind = .function) (helt : ElemOk X scope xa xb elt fun x y v => ∃ t, v = .int ((x.length : Int) + y.length) t)
    (hks : env.kindOf "self" = some .local) (hself : ρ "self" = some (.ptr a)) (ha : σ a = some (.acc d (rows.map row2))) (hd : σ d = some (.ini (some n))) (hsh : ∀ r ∈ rows, r.1.length ≤ 1000 ∧ r.2.length ≤ 1000)
    (hk : env.kindOf "sum" = some .globalImplicit) (hv : X.glob "sum" = some (.builtin "sum"))
    (he : eval (.Attribute (.Name "self" psl) "_initial_size" pat) env = (do
      let o' ← eval (.Name "self" psl) env
      standAt pat.atName
      let r ← holding [o'] (getAttr o' "_initial_size" true)
      letTemporaryGo (.Name "self" psl) o' r
      pure r))
    (h : Q (.int (n + lens rows)) σ) :
    TE X (k + 1) env (.Call (.Name "sum" p0) [.GeneratorExp elt [⟨.Tuple [.Name xa pa, .Name xb pb] kt pt, .Name "self" ps, [], 0⟩] scope pos, .Attribute (.Name "self" psl) "_initial_size" pat] [] pc) ρ σ Q := .mk fun A W s aa R F => by
  refine wpAny_Call_ofName (gname F.kind F.glb F.blt (R.g T) (R.b T) hk hv (by decide) ?_)
  refine callWith_of (P := fun _ => True) rfl (fun hp _ => ⟨.machine, .inr (.inl rfl), Looks.of_pure rfl⟩) ?_
  refine Calls.evalArgs_plain (Calls.spliced_cons ?_)
  refine gen_make T C B G H hco hfree hcell h0 hxa hxb hab hkind helt hks hself ha hsh aa R F fun ga s1 R1 F1 ⟨fp, wr, g, St, WS, hst, hT, hgf, hfp, hwr⟩ => ?_
  refine Calls.spliced_cons ?_
  refine selfIni T C he hks hself ha hd R1 F1 fun t tk htk => ?_
  refine Calls.spliced_nil ⟨trivial, ?_⟩
  have R2 := R1.toks (σ := σ) tk
  have WS1 := WS.in4_1
  have hst2 := WS1.frame 0 s1 s1.heap tk hst htk fun b _ o e => e
  refine call_sum2 (val := fun j => match rows[j]? with | some r => (r.1.length : Int) + r.2.length | none => 0) WS1 hst2 hfp ?_ fun s' t' hm => ?_
  · intro j v hp
    obtain ⟨r, hr, t, hv⟩ := hp
    exact ⟨t, by rw [hv]; simp only [hr]⟩
  · have R3 := R2.movedG T hm hwr
    have F3 := FOk.movedG (s := { s1 with toks := tk }) R2 F1 hm hwr
    have e := preSum_list (rows := rows) (val := fun j => match rows[j]? with | some r => (r.1.length : Int) + r.2.length | none => 0) (Nat.le_refl _) (fun j r hr => by simp only [hr])
    rw [List.take_length] at e
    exact ⟨W, .int (n + lens rows), σ, Le.refl W, R3, F3, ⟨t', by rw [e]⟩, h⟩
/-- E.join((E.join((x, y)) for x, y in self)) -/
theorem TE.joinGen (T : X.Ok) (C : AccB X) (B : GenMod X) {fd : FuncData} {P fa : Addr} (G : GenFn X fd P) {elt : Expr} {scope : Scope} {pos ps pa pb pt p0 pc pat : Pos} {kt : Nat} {xa xb en : Str} {tk0 : Tok} {a d : Addr} {rows : List (Str × Str)} {Q : PV → Sto → Prop}
    (H : SupEnv fa fd env) (hco : scope.isCoroutine = false) (hfree : ∀ y ∈ scope.names, y.2 ≠ .free) (hcell : ∀ y ∈ scope.names, y.2 ≠ .cell) (h0 : scope.names.lookup (".0" : Str) = some NameKind.local)
    (hxa : scope.names.lookup xa = some .local) (hxb : scope.names.lookup xb = some .local) (hab : xa ≠ xb) (hkind : scope.kind = .function) (helt : ElemOk X scope xa xb elt fun x y v => ∃ t, v = .str (x ++ y) t)
    (hks : env.kindOf "self" = some .local) (hself : ρ "self" = some (.ptr a)) (ha : σ a = some (.acc d (rows.map row2))) (hsh : ∀ r ∈ rows, r.1.length ≤ 1000 ∧ r.2.length ≤ 1000) (hfew : rows.length ≤ 40)
    (hk : env.kindOf en = some .globalImplicit) (hv : X.glob en = some (.str Str.empty tk0)) (hdn : (en == ("__debug__" : Str)) = false) (hline : (pat.endLine == pc.line) = true)
    (h : Q (.str (glue rows)) σ) :
    TE X (k + 1) env (.Call (.Attribute (.Name en p0) "join" pat) [.GeneratorExp elt [⟨.Tuple [.Name xa pa, .Name xb pb] kt pt, .Name "self" ps, [], 0⟩] scope pos] [] pc) ρ σ Q := .mk fun A W s aa R F => by
  refine Call_method1 rfl rfl hline ?_
  refine gname F.kind F.glb F.blt (R.g T) (R.b T) hk hv hdn ?_
  refine ⟨"str", "str.join", PySem.F.plainAttrs_str, PySem.F.slot_str_join, PySem.F.type_str_join, typeIs_str _ _ _, (fun a e => by cases e), ?_⟩
  refine callWith_of (P := fun _ => True) rfl (fun hp _ => ⟨.machine, .inr (.inl rfl), Looks.of_pure rfl⟩) ?_
  refine Calls.evalArgs_plain (Calls.spliced_cons ?_)
  refine gen_make T C B G H hco hfree hcell h0 hxa hxb hab hkind helt hks hself ha hsh aa R F fun ga s1 R1 F1 ⟨fp, wr, g, St, WS, hst, hT, hgf, hfp, hwr⟩ => ?_
  refine Calls.spliced_nil ⟨trivial, ?_⟩
  have hz := sl_big
  have WS2 := WS.in4_2
  refine SC.joinGen WS2 hT hst hfp hgf (fun j v hp => ?_) (fun s' lt hm hacc => ?_) (by lia)
  · obtain ⟨r, hr, t, e⟩ := hp; exact ⟨_, t, e⟩
  have hl : lt.map (·.1) = rows.map fun r => r.1 ++ r.2 := by
    apply List.ext_getElem?
    intro j
    have hsz : lt.length = rows.length := by simpa [strValues] using hacc.1
    by_cases hj : j < rows.length
    · have hj' : j < lt.length := hsz ▸ hj
      obtain ⟨r, hr, t, hv⟩ := hacc.2 j (.str lt[j].1 lt[j].2) (by simp [strValues, List.getElem?_eq_getElem hj'])
      injection hv with h1 _
      rw [List.getElem?_map, List.getElem?_map, hr, List.getElem?_eq_getElem hj']
      simp [h1]
    · rw [List.getElem?_eq_none (by simpa [hsz] using Nat.le_of_not_lt hj), List.getElem?_eq_none (by simpa using Nat.le_of_not_lt hj)]
  have hB : ∀ x ∈ rows.map (fun r => r.1 ++ r.2), x.length ≤ 2000 := fun x hx => by
    obtain ⟨r, hr, rfl⟩ := List.mem_map.mp hx
    have := hsh r hr
    rw [Str.length_append]; lia
  have hlen := join_len Str.empty 2000 _ hB
  have e0 : (Str.empty : Str).length = 0 := rfl
  rw [e0, List.length_map] at hlen
  rw [hl]
  refine ⟨?_, fun t' k' => ?_⟩
  · have hf := fold_len Str.empty 2000 (rows.map fun r => r.1 ++ r.2) 0 hB
    rw [e0, List.length_map] at hf
    unfold JoinOk Builtin.Str.tooLong
    rw [Bool.not_eq_true', decide_eq_false_iff_not]
    simp only [List.foldl_toArray', e0] at hf ⊢
    lia
  · have R3 := R1.movedG T hm hwr
    have F3 := FOk.movedG R1 F1 hm hwr
    refine ⟨W, .str (glue rows), σ, Le.refl W, R3.toks _, F3, ⟨?_, t', by rw [beq_iff_eq.mp (join_plain_closes Str.empty _)]; rfl⟩, h⟩
    show (Str.join Str.empty _).length ≤ _
    lia
end
end Mine

end
section
open PySem PySem.W PyProof.Rows
set_option Elab.async false
set_option linter.unusedVariables false
set_option maxRecDepth 100000
set_option maxHeartbeats 1000000
namespace Mine
variable {X : Txt}
section
variable {k : Nat} {env : Env} {ρ : Loc} {σ : Sto}
/-- len() of an own list -/
theorem TOp.lenA (T : X.Ok) {a d f : Addr} {xs : List PV} {i : Option Int} {Q : PV → Sto → Prop} (hs : findIn X.K (.ref X.accCls) "__len__" = some (some (.ref f))) (hf : isFn X.K (.ref f) = true) (ha : σ a = some (.acc d xs)) (hd : σ d = some (.ini i))
    (h : TOp X k (fun vs => PySem.call (.ref f) vs) [.ptr a] σ fun p σ' => ∃ n, p = .int n ∧ 0 ≤ n ∧ n < 2 ^ 63 ∧ Q (.int n) σ') : TOp X (k + 1) (fun vs => PySem.call (.builtin "len") vs) [.ptr a] σ Q := .of1 fun A W s v aa R r => by
  cases r
  obtain ⟨vs, n, es, m, hW, hV, h1, z, q, h2, i2, I⟩ := acc_inst R ha hd
  refine Calls.call_function_entry kind_len plain_len entry_len (args_len1 _) ?_
  unfold Builtin.«len»
  refine wpAny_bind (m := oneArg "len" _) (wpAny_pure ?_)
  have hc := h.run A.in1 W s [.ref a] aa.in1 R ⟨_, _, rfl, rfl, rfl⟩
  refine wpAny_bind (m := callSpecial? (.ref a) (Str.ofString "__len__")) (special_fn (R.K T) I hs (beq_iff_eq.mp hf) (wpAny_mono hc (fun r s' hr => ?_) fun _ _ y => y.elim))
  obtain ⟨W', p, σ', l, R', rv, n, rfl, h0, h1, hq⟩ := hr
  obtain ⟨t, rfl⟩ := rv
  refine wpAny_bind (wpAny_holding (wpAny_pure ?_))
  refine wpAny_bind (wpAny_letGo ?_)
  show wpAny _ _ (if n < 0 then _ else _) _ _ _
  rw [if_neg (by lia)]
  show wpAny _ _ (if n ≥ 2 ^ 63 then _ else _) _ _ _
  rw [if_neg (by lia)]
  exact wpAny_bind (wpAny_mkInt (wpAny_pure ⟨_, rfl, W', .int n, σ', l, R'.toks _, ⟨_, rfl⟩, hq⟩))
/-- str() of an own list -/
theorem TOp.strA (T : X.Ok) {a d f : Addr} {xs : List PV} {i : Option Int} {Q : PV → Sto → Prop} (hs : findIn X.K (.ref X.accCls) "__str__" = some (some (.ref f))) (hf : isFn X.K (.ref f) = true) (ha : σ a = some (.acc d xs)) (hd : σ d = some (.ini i))
    (h : TOp X k (fun vs => PySem.call (.ref f) vs) [.ptr a] σ fun p σ' => ∃ x, p = .str x ∧ Q (.str x) σ') : TOp X (k + 2) (fun vs => PySem.call (.type "str") vs) [.ptr a] σ Q := .of1 fun A W s v aa R r => by
  cases r
  obtain ⟨vs, n, es, m, hW, hV, h1, z, q, h2, i2, I⟩ := acc_inst R ha hd
  have hc := h.run A.in1.in1 W s [.ref a] aa.in1.in1 R ⟨_, _, rfl, rfl, rfl⟩
  refine kso_call aa.in1.in1.room (R.K T) I hs hf (wpAny_mono hc (fun r s' hr => ?_) fun _ _ y => y.elim)
  obtain ⟨W', p, σ', l, R', rv, x, rfl, hq⟩ := hr
  obtain ⟨hx, t, rfl⟩ := rv
  exact ⟨W', .str x, σ', l, R', ⟨hx, t, rfl⟩, hq⟩
theorem TOp.isNoneL {xs : List PV} {Q : PV → Sto → Prop} (h : Q (.bool false) σ) : TOp X k (op2 (compareOp .Is)) [.lst xs, .none] σ Q := .of2 fun A W s v u a R r1 r2 => by
  obtain ⟨a, vs, n, rfl, _⟩ := r1
  cases r2
  exact is_none_gen (HPost.here (p := .bool false) R rfl h)
theorem range_places {α : Type} (xs : List α) (a : Nat) : ∀ n : Nat, a + n ≤ xs.length → ((List.range n).map fun (k : Nat) => ((a : Int) + 1 * (k : Int)).toNat).filterMap (xs[·]?) = (xs.drop a).take n
  | 0, _ => by simp
  | n + 1, h => by
    have ih := range_places xs a n (by lia)
    rw [List.range_succ, List.map_append, List.filterMap_append, ih, List.take_add_one]
    have e : ((a : Int) + 1 * (n : Int)).toNat = a + n := by lia
    rw [List.map_cons, List.map_nil, e, List.getElem?_drop]
    congr 1
theorem pick_up (xs : List PV) {lo hi : Option Int} {a b : Nat} (hl : (sliceBounds lo hi none xs.length).1 = a) (hh : (sliceBounds lo hi none xs.length).2.1 = b) (hab : a ≤ b) (hb : b ≤ xs.length) : pickP xs lo hi none = (xs.drop a).take (b - a) := by
  have h3 : (sliceBounds lo hi none xs.length).2.2 = 1 := rfl
  unfold pickP
  rw [hl, hh, h3]
  unfold sliceRange
  simp only [show (1 : Int) > 0 by decide, if_true]
  have hc : (if (a : Int) < b then ((b : Int) - a + 1 - 1) / 1 else 0).toNat = b - a := by split <;> lia
  rw [hc]
  exact range_places xs a (b - a) (by lia)
theorem pick_all (xs : List PV) : pickP xs none none none = xs := by
  rw [pick_up xs (a := 0) (b := xs.length) rfl rfl (Nat.zero_le _) (Nat.le_refl _)]; simp
theorem pick_from (xs : List PV) (n : Nat) (h : n ≤ xs.length) : pickP xs (some (n : Int)) none none = xs.drop n := by
  rw [pick_up xs (a := n) (b := xs.length) ?_ rfl h (Nat.le_refl _)]
  · rw [List.take_of_length_le (by simp)]
  · simp only [sliceBounds, Option.getD_none, show (1 : Int) > 0 by decide, if_true]
    split <;> lia
theorem pick_to (xs : List PV) (n : Nat) (h : n ≤ xs.length) : pickP xs none (some (n : Int)) none = xs.take n := by
  rw [pick_up xs (a := 0) (b := n) rfl ?_ (Nat.zero_le _) h]
  · simp
  · simp only [sliceBounds, Option.getD_none, show (1 : Int) > 0 by decide, if_true]
    split <;> lia
theorem cut_from (xs : List PV) (n : Nat) (h : n ≤ xs.length) : cutP xs [] (some (n : Int)) none = xs.take n := by
  have e1 : (sliceBounds (some (n : Int)) none none xs.length).1 = n := by
    simp only [sliceBounds, Option.getD_none, show (1 : Int) > 0 by decide, if_true]
    split <;> lia
  have e2 : (sliceBounds (some (n : Int)) none none xs.length).2.1 = xs.length := rfl
  unfold cutP
  rw [e1, e2]
  have : (max (n : Int) (xs.length : Int)).toNat = xs.length := by lia
  rw [this]; simp
theorem cut_all (xs ys : List PV) : cutP xs ys none none = ys := by
  have e1 : (sliceBounds none none none xs.length).1 = 0 := rfl
  have e2 : (sliceBounds none none none xs.length).2.1 = xs.length := rfl
  unfold cutP
  rw [e1, e2]
  have : (max (0 : Int) (xs.length : Int)).toNat = xs.length := by lia
  rw [this]; simp
end
end Mine

end
section
open PySem PySem.W PyProof.Rows
set_option Elab.async false
set_option linter.unusedVariables false
set_option maxRecDepth 100000
set_option maxHeartbeats 1000000
namespace Mine
variable {X : Txt}
structure FAt (X : Txt) (fa : Addr) (fd : FuncData) (names : List Str) (body : List Stmt) : Prop where
  K : ∃ o, X.K.lookup fa = some o ∧ o.data = .func fd
  body : fd.body = .stmts body
  gl : fd.globals = mainGlobals
  bl : fd.builtins = builtinsNs
  code : codeIn X.K fd.code fd.qualname = true
  clo : fd.closure.length ≤ 1
  kinds : ∀ x ∈ names, fd.scope.names.lookup x = some .local
  cell : ∀ x ∈ fd.scope.names, x.2 ≠ .cell
  co : fd.scope.isCoroutine = false
  gen : fd.scope.isGenerator = false
  kd : fd.scope.kind = .function
theorem FAt.call (T : X.Ok) {k : Nat} {fa : Addr} {fd : FuncData} {names : List Str} {body : List Stmt} {ps qs : List PV} {σ : Sto} {Q : PV → Sto → Prop} (D : FAt X fa fd names body) (hlen : qs.length = names.length)
    (hbind : ∀ (W : Map) (vs : List Value), VRels W ps vs → ∃ us, (∀ S, peek X.K S (bindArgs fd ⟨vs, []⟩) = some (names.zip us)) ∧ VRels W qs us)
    (h : TDefA X k fa fd names body qs σ Q) : TOp X (k + 1) (fun vs => PySem.call (.ref fa) vs) ps σ Q := by
  obtain ⟨o, h1, h2⟩ := D.K
  exact TOp.defF T h1 h2 D.body D.gl D.bl D.code D.clo D.kinds D.cell D.co D.gen D.kd hlen hbind h
theorem FAt.codeAny (T : X.Ok) {k : Nat} {fa : Addr} {fd : FuncData} {names : List Str} {body : List Stmt} {ps qs : List PV} {σ : Sto} {Q : PV → Sto → Prop} (D : FAt X fa fd names body) (hlen : qs.length = names.length)
    (hbind : ∀ (W : Map) (vs : List Value), VRels W ps vs → ∃ us, (∀ S, peek X.K S (bindArgs fd ⟨vs, []⟩) = some (names.zip us)) ∧ VRels W qs us)
    (h : TDefA X k fa fd names body qs σ Q) {A : Around} {W : Map} {s : Shared} {vs : List Value} (a : AOk (k + 1) A) (R : HRel X W σ s) (r : VRels W ps vs) : codeAny X.M A (.call (.ref fa) ⟨vs, []⟩) (wants (HPost X W Q) (fun _ _ => False)) s := by
  obtain ⟨o, h1, h2⟩ := D.K
  exact defF_code T h1 h2 D.body D.gl D.bl D.code D.clo D.kinds D.cell D.co D.gen D.kd hlen hbind h a R r
/-- the arguments of a call without defaults -/
theorem bind_all {fd : FuncData} {names : List Str} {ps : List PV} (hb : ∀ vs : List Value, vs.length = names.length → ∀ S, peek X.K S (bindArgs fd ⟨vs, []⟩) = some (names.zip vs)) (hl : ps.length = names.length) : ∀ (W : Map) (vs : List Value), VRels W ps vs → ∃ us, (∀ S, peek X.K S (bindArgs fd ⟨vs, []⟩) = some (names.zip us)) ∧ VRels W ps us :=
  fun W vs r => ⟨vs, hb vs (r.length.trans hl), r⟩
theorem triples_more {vs : Array Value} {l c : Int} {a : Addr} (h : TriplesOk vs.toList) : TriplesOk (vs ++ #[rawInt l, rawInt c, .ref a]).toList := by
  rw [Array.toList_append]; exact TriplesOk_snoc l c (.ref a) vs.toList h
end Mine

end
section
open PySem PySem.W PyProof.Rows
set_option Elab.async false
set_option linter.unusedVariables false
set_option maxRecDepth 100000
set_option maxHeartbeats 1000000
namespace Mine
open AutoSeq1 (wpAny_loadPart')
/-! enumerate -/
theorem meets_enum_newT (l : Addr) (items : Array Value) (n : Nat) :
    Meets (Builtin.«enumerate.__new__» ⟨[.type "enumerate", .ref l], []⟩) (fun _ R s => s.heap.get? l = some { cls := .type "tuple", data := .seq items n } ∧
      R (.ok (.ret (.ref (s.heap.push { cls := .type "tuple_iterator", data := .fields #[.ref l, .int 0 0] }).objs.size)))
        { s with heap := (s.heap.push { cls := .type "tuple_iterator", data := .fields #[.ref l, .int 0 0] }).push { cls := .type "enumerate", data := .fields #[.none, .bool false, .ref s.heap.objs.size, rawInt 0, .none, .none] } }) :=
  .of_wp fun prog w A R s h => by
    obtain ⟨hp, g, d, tk, os⟩ := s; obtain ⟨hl, h⟩ := h
    have hsub := sub_enumerate
    have hL : Heap.IsTuple (Shared.heap ⟨hp, g, d, tk, os⟩) l items := ⟨_, hl, rfl, n, rfl⟩
    wp_walk using wpAny_loadPart' hl
    refine wpAny_stack_any fun st => wpAny_pure ?_
    split
    · rename_i c _ _ _ _ _
      cases (c == Value.type "enumerate")
      · wp_walk using wpAny_loadPart' hl, wpAny_pyIter_tuple hL
        exact ⟨_, rfl, h⟩
      · wp_walk using wpAny_loadPart' hl, wpAny_pyIter_tuple hL
        exact ⟨_, rfl, h⟩
    · wp_walk using wpAny_loadPart' hl, wpAny_pyIter_tuple hL
      exact ⟨_, rfl, h⟩
section
variable {prog : Program} {w : World} {A : Around} {E : Value → Shared → Prop} {s : Shared}
theorem call_enum_tup {l : Addr} {items : Array Value} {n : Nat} {Q : Value → Shared → Prop} (hl : s.heap.get? l = some { cls := .type "tuple", data := .seq items n })
    (h : ∀ h', IsEnum h' (s.heap.objs.size + 1) s.heap.objs.size 0 .none → h'.IsTupleIter s.heap.objs.size l 0 → h'.objs.size = s.heap.objs.size + 2 →
      (∀ b o, s.heap.get? b = some o → h'.get? b = some o) → Q (.ref (s.heap.objs.size + 1)) { s with heap := h' }) :
    wpAny (model prog w) A (call (.type "enumerate") [.ref l]) Q E s := by
  refine callType_new F.called_enumerate (by decide) (F.typeCall_enumerate_1 _) (F.newCall_enumerate_1 _) (fun obj => F.args_object_init_2 obj _) F.entry_enumerate_new
    (meets_enum_newT l items n) ⟨hl, ?_⟩
  have hz : (s.heap.push { cls := .type "tuple_iterator", data := .fields #[.ref l, .int 0 0] }).objs.size = s.heap.objs.size + 1 := Heap.size_push ..
  show _ ∧ _
  rw [hz]
  have he : IsEnum ((s.heap.push { cls := .type "tuple_iterator", data := .fields #[.ref l, .int 0 0] }).push
      { cls := .type "enumerate", data := .fields #[.none, .bool false, .ref s.heap.objs.size, rawInt 0, .none, .none] }) (s.heap.objs.size + 1) s.heap.objs.size 0 .none := by
    have := Heap.get?_push_size (s.heap.push { cls := .type "tuple_iterator", data := .fields #[.ref l, .int 0 0] })
      (o := { cls := .type "enumerate", data := .fields #[.none, .bool false, .ref s.heap.objs.size, rawInt 0, .none, .none] }) rfl
    rw [hz] at this; exact this
  refine ⟨⟨_, he, rfl⟩, h _ he ⟨_, Heap.get?_push_of_some _ (Heap.get?_push_size _ rfl), rfl, rfl⟩ (by rw [Heap.size_push, hz]) fun b o x => Heap.get?_push_of_some _ (Heap.get?_push_of_some _ x)⟩
theorem nextOf_tup_item {it t : Addr} {i : Nat} {items : Array Value} {x : Value} {Q : Value → Shared → Prop} (hit : s.heap.IsTupleIter it t i) (ht : s.heap.IsTuple t items) (hx : items[i]? = some x)
    (hQ : ∀ h', h'.IsTupleIter it t (i + 1) → Heap.SameBut it s.heap h' → Q x { s with heap := h' }) : wpAny (model prog w) A (Builtin.SmallTypes.nextOf (.ref it)) Q E s := by
  obtain ⟨o, ho, hc, hd⟩ := id hit
  obtain ⟨ol, hol, _, nl, hdl⟩ := ht
  unfold Builtin.SmallTypes.nextOf
  refine wpAny_bind (wpAny_callSpecial?_slot (name := Str.ofString "__next__") hit.typeIs F.slot_tuple_iterator_next
    (wpAny_call_entry F.slot_tuple_iterator_next hit.typeIs F.entry_tuple_iterator_next ?_ (F.args_tuple_iterator_next_1 _)))
  show wpAny _ _ (field (.ref it) 0 >>= _) _ _ s
  refine wpAny_bind (wpAny_field ho hd (x := .ref t) rfl ?_)
  show wpAny _ _ (if (Value.ref t == Value.none) = true then _ else _) _ _ s
  rw [if_neg (show ¬ ((Value.ref t == Value.none) = true) from Bool.false_ne_true)]
  show wpAny _ _ (field (.ref it) 1 >>= _) _ _ s
  refine wpAny_bind (wpAny_field ho hd (x := .int i 0) rfl ?_)
  show wpAny _ _ (seqItems? (.ref t) >>= _) _ _ s
  refine wpAny_bind (wpAny_seqItems hol hdl ?_)
  simp only [Int.toNat_natCast, hx]
  refine wpAny_bind (wpAny_setField ho hd (by simp) (wpAny_pure ⟨x, rfl, wpAny_pure (hQ _ ?_ (Heap.SameBut.update ..))⟩))
  exact ⟨_, Heap.get?_update_self _ ho (Obj.isFreed_of_fields (Obj.data_mapFields hd _)), (Obj.cls_mapFields ..).trans hc, by
    rw [Obj.data_mapFields hd]; simp [rawInt]⟩
theorem nextOf_tup_end {it t : Addr} {i : Nat} {items : Array Value} {Q : Value → Shared → Prop} (hh : A.handled = none) (hit : s.heap.IsTupleIter it t i) (ht : s.heap.IsTuple t items) (hx : items[i]? = none)
    (hE : ∀ h' e, Heap.ExtBut it s.heap h' → (∃ o, h'.get? e = some o ∧ o.cls = .type "StopIteration") → E (.ref e) { s with heap := h' }) : wpAny (model prog w) A (Builtin.SmallTypes.nextOf (.ref it)) Q E s := by
  obtain ⟨o, ho, hc, hd⟩ := id hit
  obtain ⟨ol, hol, _, nl, hdl⟩ := ht
  unfold Builtin.SmallTypes.nextOf
  refine wpAny_bind (wpAny_callSpecial?_slot (name := Str.ofString "__next__") hit.typeIs F.slot_tuple_iterator_next
    (wpAny_call_entry F.slot_tuple_iterator_next hit.typeIs F.entry_tuple_iterator_next ?_ (F.args_tuple_iterator_next_1 _)))
  show wpAny _ _ (field (.ref it) 0 >>= _) _ _ s
  refine wpAny_bind (wpAny_field ho hd (x := .ref t) rfl ?_)
  show wpAny _ _ (if (Value.ref t == Value.none) = true then _ else _) _ _ s
  rw [if_neg (show ¬ ((Value.ref t == Value.none) = true) from Bool.false_ne_true)]
  show wpAny _ _ (field (.ref it) 1 >>= _) _ _ s
  refine wpAny_bind (wpAny_field ho hd (x := .int i 0) rfl ?_)
  show wpAny _ _ (seqItems? (.ref t) >>= _) _ _ s
  refine wpAny_bind (wpAny_seqItems hol hdl ?_)
  simp only [Int.toNat_natCast, hx]
  refine wpAny_bind (wpAny_rule (wpAny_bind (wpAny_setField ho hd (by simp) ?_)))
  show wpAny _ _ (newExc (.type "StopIteration") [] >>= _) _ _ _
  refine wpAny_bind ?_
  simp only [newExc, newTuple]
  refine wpAny_bind (wpAny_newObj_type ?_ (by size_fits))
  refine wpAny_bind (m := firstArgMember _ _) (wpAny_of_eq (a := Value.none) (by first | rfl | (simp only [firstArgMember]; rfl)) ?_)
  refine wpAny_newObj_type ?_ (by size_fits)
  simp only [raiseNew]
  refine wpAny_bind (wpAny_handled ?_)
  first | rw [show A.in1.handled = none from hh] | rw [hh]
  refine wpAny_bind (wpAny_pure (wpAny_throw ?_))
  exact hE _ _ (((Heap.SameBut.update ..).extBut.push _).push _) ⟨_, Heap.get?_push_size _ rfl, rfl⟩
theorem drawsT (hh : A.handled = none) (it l : Addr) (hne : l ≠ it) (items : Array Value) :
    Draws prog w A it [it, l] items.size (fun i v => items[i]? = some v) (fun i h => h.IsTupleIter it l i ∧ h.IsTuple l items) where
  live := fun _ _ st => let ⟨o, ho, _⟩ := st.1; ⟨o, ho⟩
  frame := fun _ _ _ st hk => by
    obtain ⟨⟨o, ho, r⟩, ⟨o2, ho2, r2⟩⟩ := st
    exact ⟨⟨o, hk it (by simp) _ ho, r⟩, ⟨o2, hk l (by simp) _ ho2, r2⟩⟩
  item := fun i s Q E hi st hQ => by
    refine nextOf_tup_item st.1 st.2 (x := items[i]) (by simp [hi]) fun h' hit' hs' => ?_
    exact hQ _ h' s.toks (by simp [hi]) ⟨hit', st.2.extBut hs'.extBut hne⟩ hs'
  done := fun s Q E st hE => nextOf_tup_end hh st.1 st.2 (by simp) hE
end
variable {X : Txt}
noncomputable abbrev enumObj (j : Addr) (i : Int) (old : Value) : Obj := { cls := .type "enumerate", dict := none, data := .fields #[.none, .bool false, .ref j, rawInt i, .none, old], slots := #[] }
/-- an enumerate that is about to give xs; W₀ : before it was made -/
inductive ESrc (W₀ W : Map) (e : Addr) : Nat → List PV → Prop
  | list {j l : Addr} {oj : Obj} {vs : List Value} {n i : Nat} {old : Value} {xs : List PV} : W₀ e = .no → W₀ j = .no → e ≠ j → W e = .hid (enumObj j i old) → W j = .hid oj → oj.cls = .type "list_iterator" → oj.data = .fields #[.ref l, .int i 0] →
      W l = .fro (lstObj vs n) → VRels W xs (vs.drop i) → ESrc W₀ W e i xs
  | tup {j l : Addr} {oj : Obj} {vs : List Value} {n i : Nat} {old : Value} {xs : List PV} : W₀ e = .no → W₀ j = .no → e ≠ j → W e = .hid (enumObj j i old) → W j = .hid oj → oj.cls = .type "tuple_iterator" → oj.data = .fields #[.ref l, .int i 0] →
      W l = .fro (tupObj vs n) → VRels W xs (vs.drop i) → ESrc W₀ W e i xs
theorem ESrc.le {W₀ W W' : Map} {e : Addr} {i : Nat} {xs : List PV} (S : ESrc W₀ W e i xs) (l : Le W W') : ESrc W₀ W' e i xs := by
  cases S with
  | list h0 h1 h2 h3 h4 h5 h6 h7 h8 => exact .list h0 h1 h2 (l.hid _ _ h3) (l.hid _ _ h4) h5 h6 (l.fro _ _ h7) (h8.le l)
  | tup h0 h1 h2 h3 h4 h5 h6 h7 h8 => exact .tup h0 h1 h2 (l.hid _ _ h3) (l.hid _ _ h4) h5 h6 (l.fro _ _ h7) (h8.le l)
noncomputable def enumP : Nat → List PV → List PV
  | _, [] => []
  | i, x :: xs => .tup [.int i, x] :: enumP (i + 1) xs
section
variable {k : Nat} {A : Around} {W₀ W : Map} {σ : Sto} {s : Shared} {env : Env} {ρ : Loc} {e j : Addr}
/-- two hidden objects have changed, and a new one stands behind the others -/
theorem enumMoved (T : X.Ok) (R : HRel X W σ s) (F : FOk W env ρ s.heap) {oe oj oe' oj' ot : Obj} (he : W e = .hid oe) (hj : W j = .hid oj) (ce : ∀ v, oe.data ≠ .cell v) (cj : ∀ v, oj.data ≠ .cell v) (hne : e ≠ j) {h' : Heap}
    (keep : ∀ b o, b ≠ e → b ≠ j → s.heap.get? b = some o → h'.get? b = some o) (he' : h'.get? e = some oe') (hj' : h'.get? j = some oj') (ht : h'.get? s.heap.objs.size = some ot) (t : Nat) :
    ∃ W', HRel X W' σ { s with heap := h', toks := t } ∧ FOk W' env ρ h' ∧ W' e = .hid oe' ∧ W' j = .hid oj' ∧ W' s.heap.objs.size = .fro ot ∧ (∀ b, b ≠ e → b ≠ j → b ≠ s.heap.objs.size → W' b = W b) := by
  have hn := R.new
  have hz : ∀ b, W b ≠ .no → b ≠ s.heap.objs.size := fun b hb e => hb (e ▸ hn)
  have ne := hz e (by rw [he]; intro h; cases h)
  have nj := hz j (by rw [hj]; intro h; cases h)
  let W' : Map := ((W.set s.heap.objs.size (.fro ot)).set j (.hid oj')).set e (.hid oe')
  have wn : ∀ b, b ≠ e → b ≠ j → b ≠ s.heap.objs.size → W' b = W b := fun b h1 h2 h3 => (Map.set_ne h1).trans ((Map.set_ne h2).trans (Map.set_ne h3))
  have we : W' e = .hid oe' := Map.set_self ..
  have wj : W' j = .hid oj' := (Map.set_ne (Ne.symm hne)).trans (Map.set_self ..)
  have wz : W' s.heap.objs.size = .fro ot := (Map.set_ne (Ne.symm ne)).trans ((Map.set_ne (Ne.symm nj)).trans (Map.set_self ..))
  have keepW : ∀ b x, W b = x → x.tag ≠ 0 → (∀ o, x = .hid o → o ≠ oe ∧ o ≠ oj) → b ≠ e ∧ b ≠ j ∧ W' b = x := fun b x q h0 hh => by
    have h1 : b ≠ e := fun q1 => (hh oe (q.symm.trans (q1 ▸ he))).1 rfl
    have h2 : b ≠ j := fun q1 => (hh oj (q.symm.trans (q1 ▸ hj))).2 rfl
    exact ⟨h1, h2, (wn b h1 h2 (hz b fun q1 => h0 (by rw [← q, q1]; rfl))).trans q⟩
  have lf : ∀ b o, W b = .fro o → W' b = .fro o := fun b o q => (keepW b _ q (by intro h; cases h) (fun _ h => by cases h)).2.2
  refine ⟨W', ⟨fun b => ?_, fun b o q hb => lf _ _ (R.old b o q hb), fun b hb => (keepW b _ (R.tab b hb) (by intro h; cases h) (fun _ h => by cases h)).2.2, fun b c => ?_, R.os, R.gens⟩, ?_, we, wj, wz, wn⟩
  · by_cases h1 : b = e
    · rw [h1, we]; exact he'
    · by_cases h2 : b = j
      · rw [h2, wj]; exact hj'
      · by_cases h3 : b = s.heap.objs.size
        · rw [h3, wz]; exact ht
        · rw [wn b h1 h2 h3]
          exact (R.ok b).mono T lf fun o => keep b o h1 h2
  · rw [R.cel]
    by_cases h1 : b = e
    · rw [h1, we, he]; exact ⟨fun q => (by cases q), fun q => (by cases q)⟩
    · by_cases h2 : b = j
      · rw [h2, wj, hj]; exact ⟨fun q => (by cases q), fun q => (by cases q)⟩
      · by_cases h3 : b = s.heap.objs.size
        · rw [h3, wz, hn]; exact ⟨fun q => (by cases q), fun q => (by cases q)⟩
        · rw [wn b h1 h2 h3]
  · have hcell : ∀ (o : Obj) v, o.data = .cell v → o ≠ oe ∧ o ≠ oj := fun o v hv => ⟨fun q => ce v (q ▸ hv), fun q => cj v (q ▸ hv)⟩
    refine F.goF ⟨lf, fun b o v hv q => (keepW b _ q (by intro h; cases h) (fun o' h => Slot.hid.inj h ▸ hcell o v hv)).2.2, fun b q => (keepW b _ q (by intro h; cases h) (fun _ h => by cases h)).2.2⟩ fun b hb => ?_
    have hs : b ≠ e ∧ b ≠ j ∧ W b ≠ .no := by
      rcases hb with q | ⟨o, v, q, hv⟩
      · have k := keepW b _ q (by intro h; cases h) (fun _ h => by cases h)
        exact ⟨k.1, k.2.1, by rw [q]; intro h; cases h⟩
      · have k := keepW b _ q (by intro h; cases h) (fun o' h => Slot.hid.inj h ▸ hcell o v hv)
        exact ⟨k.1, k.2.1, by rw [q]; intro h; cases h⟩
    obtain ⟨o', ho⟩ := (R.ok b).some hs.2.2
    rw [ho]
    exact keep b o' hs.1 hs.2.1 ho
end
end Mine

end
section
open PySem PySem.W PyProof.Rows
set_option Elab.async false
set_option linter.unusedVariables false
set_option maxRecDepth 100000
set_option maxHeartbeats 1000000
namespace Mine
variable {X : Txt}
section
variable {k : Nat} {A : Around} {W₀ W : Map} {σ : Sto} {s : Shared} {env : Env} {ρ : Loc} {e : Addr} {i : Nat} {x : PV} {xs : List PV}
inductive EDPost (X : Txt) (W₀ : Map) (env : Env) (ρ : Loc) (σ : Sto) (r : Option Value) (s' : Shared) : Prop
  | mk (W' : Map) (e : r = none) (l : Le W₀ W') (R : HRel X W' σ s') (F : FOk W' env ρ s'.heap)
inductive ESPost (X : Txt) (W₀ : Map) (env : Env) (ρ : Loc) (σ : Sto) (e : Addr) (i : Nat) (x : PV) (xs : List PV) (v : Value) (s' : Shared) : Prop
  | mk (W' : Map) (l : Le W₀ W') (R : HRel X W' σ s') (F : FOk W' env ρ s'.heap) (r : VRel W' (.tup [.int i, x]) v) (S : ESrc W₀ W' e (i + 1) xs)
theorem ESrc.step (T : X.Ok) (a : AOk k A) (R : HRel X W σ s) (F : FOk W env ρ s.heap) (l : Le W₀ W) {xs' : List PV} (q : xs' = x :: xs) (S : ESrc W₀ W e i xs') {elts : List Expr} {n1 : Nat} {pos : Pos} :
    wpAny X.M A (pyNext (.ref e)) (fun r s' => ∃ v, r = some v ∧ wpAny X.M A (letOwnedTupleGo (.Tuple elts n1 pos) (.ref e) v) (fun _ s'' => ESPost X W₀ env ρ σ e i x xs v s'') (fun _ _ => False) s') (fun _ _ => False) s := by
  have hsl := sl_big
  cases S with
  | @list j l' oj vs n _ old _ h0 h1 h2 h3 h4 h5 h6 h7 h8 =>
    subst q
    obtain ⟨v, r, g1, g2, g3⟩ := h8
    obtain ⟨d1, d2⟩ := drop_get g1
    have ne_l : l' ≠ j := by rintro rfl; rw [h7] at h4; cases h4
    have ne_le : l' ≠ e := by rintro rfl; rw [h7] at h3; cases h3
    refine wpAny_pyNext_enum_itemD (Draws.list (prog := X.prog) (w := X.w) (A := A.in1) a.handled j l' ne_l vs.toArray) (R.hid h3) ⟨⟨_, R.hid h4, h5, h6⟩, ⟨_, R.fro h7, rfl, _, rfl⟩⟩ (by have := (List.getElem?_eq_some_iff.mp d1).1; simpa using this) h2 ?_ ?_
    · simp only [List.mem_cons, List.not_mem_nil, or_false, not_or]; exact ⟨h2, Ne.symm ne_le⟩
    intro x' h' tk hx' heo hst ht hz hk
    rw [List.getElem?_toArray, d1] at hx'
    cases hx'
    refine ⟨_, rfl, wpAny_letOwnedTupleGo_enum heo fun h2' he2 hs2 => ?_⟩
    obtain ⟨⟨o', ho', hc', hd'⟩, hl'⟩ := hst
    have ne_z : s.heap.objs.size ≠ e := by intro q; have := R.new; rw [q, h3] at this; cases this
    obtain ⟨W', R', F', w1, w2, w3, w4⟩ := enumMoved (oe' := enumObj j ((i : Int) + 1) v) (oj' := o') (ot := tupObj [.int i tk, v] 0) T R F h3 h4 (by intro v h; cases h) (by rw [h6]; intro v h; cases h) h2 (h' := h2')
      (fun b o hb hj' hh => (hs2.2 b hb).trans (hk b o hb hj' hh)) he2 ((hs2.2 j (Ne.symm h2)).trans ho') ((hs2.2 _ ne_z).trans ht) (tk + 1)
    have hn := R.new
    have lf : ∀ b o, W b = .fro o → W' b = .fro o := fun b o q => by
      rw [w4 b (by first | exact nq q (h3) rfl | exact Ne.symm (nq q (h3) rfl) | (rintro rfl; rw [h3] at q; cases q)) (by first | exact nq q (h4) rfl | exact Ne.symm (nq q (h4) rfl) | (rintro rfl; rw [h4] at q; cases q)) (by first | exact nq q (hn) rfl | exact Ne.symm (nq q (hn) rfl) | (rintro rfl; rw [hn] at q; cases q))]; exact q
    have l' : Le W₀ W' := by
      have ne1 : ∀ b, W₀ b ≠ .no → b ≠ e ∧ b ≠ j ∧ b ≠ s.heap.objs.size := fun b hb => ⟨by rintro rfl; exact hb h0, by rintro rfl; exact hb h1, by rintro rfl; exact hb (l.no _ hn)⟩
      exact l.off fun b hb => w4 b (ne1 b hb).1 (ne1 b hb).2.1 (ne1 b hb).2.2
    refine ⟨W', l', R', F', ⟨s.heap.objs.size, [.int i tk, v], 0, rfl, w3, by show 2 ≤ _; lia, _, _, rfl, ⟨tk, rfl⟩, v, _, rfl, VRel.mono lf _ _ g2, rfl⟩, ?_⟩
    exact .list h0 h1 h2 w1 w2 hc' hd' (lf _ _ h7) (by rw [d2]; exact VRels.mono lf _ _ g3)
  | @tup j l' oj vs n _ old _ h0 h1 h2 h3 h4 h5 h6 h7 h8 =>
    subst q
    obtain ⟨v, r, g1, g2, g3⟩ := h8
    obtain ⟨d1, d2⟩ := drop_get g1
    have ne_l : l' ≠ j := by rintro rfl; rw [h7] at h4; cases h4
    have ne_le : l' ≠ e := by rintro rfl; rw [h7] at h3; cases h3
    refine wpAny_pyNext_enum_itemD (drawsT (prog := X.prog) (w := X.w) (A := A.in1) a.handled j l' ne_l vs.toArray) (R.hid h3) ⟨⟨_, R.hid h4, h5, h6⟩, ⟨_, R.fro h7, rfl, _, rfl⟩⟩ (by have := (List.getElem?_eq_some_iff.mp d1).1; simpa using this) h2 ?_ ?_
    · simp only [List.mem_cons, List.not_mem_nil, or_false, not_or]; exact ⟨h2, Ne.symm ne_le⟩
    intro x' h' tk hx' heo hst ht hz hk
    rw [List.getElem?_toArray, d1] at hx'
    cases hx'
    refine ⟨_, rfl, wpAny_letOwnedTupleGo_enum heo fun h2' he2 hs2 => ?_⟩
    obtain ⟨⟨o', ho', hc', hd'⟩, hl'⟩ := hst
    have ne_z : s.heap.objs.size ≠ e := by intro q; have := R.new; rw [q, h3] at this; cases this
    obtain ⟨W', R', F', w1, w2, w3, w4⟩ := enumMoved (oe' := enumObj j ((i : Int) + 1) v) (oj' := o') (ot := tupObj [.int i tk, v] 0) T R F h3 h4 (by intro v h; cases h) (by rw [h6]; intro v h; cases h) h2 (h' := h2')
      (fun b o hb hj' hh => (hs2.2 b hb).trans (hk b o hb hj' hh)) he2 ((hs2.2 j (Ne.symm h2)).trans ho') ((hs2.2 _ ne_z).trans ht) (tk + 1)
    have hn := R.new
    have lf : ∀ b o, W b = .fro o → W' b = .fro o := fun b o q => by
      rw [w4 b (by first | exact nq q (h3) rfl | exact Ne.symm (nq q (h3) rfl) | (rintro rfl; rw [h3] at q; cases q)) (by first | exact nq q (h4) rfl | exact Ne.symm (nq q (h4) rfl) | (rintro rfl; rw [h4] at q; cases q)) (by first | exact nq q (hn) rfl | exact Ne.symm (nq q (hn) rfl) | (rintro rfl; rw [hn] at q; cases q))]; exact q
    have l' : Le W₀ W' := by
      have ne1 : ∀ b, W₀ b ≠ .no → b ≠ e ∧ b ≠ j ∧ b ≠ s.heap.objs.size := fun b hb => ⟨by rintro rfl; exact hb h0, by rintro rfl; exact hb h1, by rintro rfl; exact hb (l.no _ hn)⟩
      exact l.off fun b hb => w4 b (ne1 b hb).1 (ne1 b hb).2.1 (ne1 b hb).2.2
    refine ⟨W', l', R', F', ⟨s.heap.objs.size, [.int i tk, v], 0, rfl, w3, by show 2 ≤ _; lia, _, _, rfl, ⟨tk, rfl⟩, v, _, rfl, VRel.mono lf _ _ g2, rfl⟩, ?_⟩
    exact .tup h0 h1 h2 w1 w2 hc' hd' (lf _ _ h7) (by rw [d2]; exact VRels.mono lf _ _ g3)
theorem ESrc.done (T : X.Ok) (a : AOk k A) (R : HRel X W σ s) (F : FOk W env ρ s.heap) (l : Le W₀ W) {xs' : List PV} (q : xs' = []) (S : ESrc W₀ W e i xs') :
    wpAny X.M A (pyNext (.ref e)) (EDPost X W₀ env ρ σ) (fun _ _ => False) s := by
  cases S with
  | @list j l' oj vs n _ old _ h0 h1 h2 h3 h4 h5 h6 h7 h8 =>
    subst q
    have ne_l : l' ≠ j := by rintro rfl; rw [h7] at h4; cases h4
    have hx : vs.toArray[i]? = none := by rw [List.getElem?_toArray]; exact drop_end h8
    refine wpAny_pyNext_enum_end a.handled (R.hid h3) ⟨_, R.hid h4, h5, h6⟩ ⟨_, R.fro h7, rfl, _, rfl⟩ hx fun h' hx => ?_
    obtain ⟨R', F'⟩ := gone T R F h4 (by rw [h6]; intro v h; cases h) hx s.toks
    exact ⟨_, rfl, l.setHid h1, R', F'⟩
  | @tup j l' oj vs n _ old _ h0 h1 h2 h3 h4 h5 h6 h7 h8 =>
    subst q
    have ne_l : l' ≠ j := by rintro rfl; rw [h7] at h4; cases h4
    have hx : vs.toArray[i]? = none := by rw [List.getElem?_toArray]; exact drop_end h8
    have D := drawsT (prog := X.prog) (w := X.w) (A := A.in1) a.handled j l' ne_l vs.toArray
    have hT : s.TypeIs (.ref e) "enumerate" := ⟨_, R.hid h3, rfl⟩
    unfold pyNext
    refine wpAny_bind (wpAny_attempt (wpAny_callSpecial?_slot (name := Str.ofString "__next__") hT PySem.F.slot_enumerate_next (wpAny_call_entry PySem.F.slot_enumerate_next hT PySem.F.entry_enumerate_next ?_ (PySem.F.args_enumerate_next_1 _))))
    show wpAny _ _ (field (.ref e) 2 >>= _) _ _ _
    refine wpAny_bind (wpAny_field (R.hid h3) rfl (x := .ref j) rfl ?_)
    refine wpAny_bind (nextOf_tup_end a.handled ⟨_, R.hid h4, h5, h6⟩ ⟨_, R.fro h7, rfl, _, rfl⟩ hx fun h' x he' hx' => ?_)
    obtain ⟨o, ho, hc⟩ := hx'
    refine wpAny_bind (wpAny_isInstance (T := "StopIteration") (b := true) ⟨o, ho, hc⟩ isSubtype_stop ?_)
    obtain ⟨R', F'⟩ := gone T R F h4 (by rw [h6]; intro v h; cases h) he' s.toks
    exact wpAny_pure ⟨_, rfl, l.setHid h1, R', F'⟩
end
section
variable {k : Nat} {env : Env} {ρ : Loc} {σ : Sto}
inductive ForEI (X : Txt) (k : Nat) (env : Env) (tg : Expr) (body orelse : List Stmt) (W₀ : Map) (e : Addr) (Q : Ctl → Loc → Sto → Prop) (n : Nat) (s : Shared) : Prop
  | mk (W : Map) (ρ : Loc) (σ : Sto) (xs : List PV) (i : Nat) (z : xs.length = n) (l : Le W₀ W) (R : HRel X W σ s) (F : FOk W env ρ s.heap) (S : ESrc W₀ W e i xs) (h : TFor X k env tg body orelse (enumP i xs) ρ σ Q)
theorem TFor.okE (T : X.Ok) {elts : List Expr} {n1 : Nat} {tpos : Pos} {body orelse : List Stmt} {Q : Ctl → Loc → Sto → Prop} {A : Around} {W₀ W : Map} {s : Shared} {e : Addr} {i : Nat} {xs : List PV} (a : AOk k A) (l : Le W₀ W) (R : HRel X W σ s) (F : FOk W env ρ s.heap)
    (S : ESrc W₀ W e i xs) (h : TFor X k env (.Tuple elts n1 tpos) body orelse (enumP i xs) ρ σ Q) :
    codeAny X.M A (.forLoop (.Tuple elts n1 tpos) (.ref e) body orelse env) (fun r s' => match r with | .ok f => SPost X W₀ env Q f s' | .error e => cameBackBy X.M A env (fun _ _ => False) e s') s := by
  refine codeAny_forLoop_any (ForEI X k env (.Tuple elts n1 tpos) body orelse W₀ e Q) ?_ xs.length ⟨W, ρ, σ, xs, i, rfl, l, R, F, S, h⟩
  rintro n s ⟨W, ρ, σ, xs, i, hlen, l, R, F, S, h⟩
  cases xs with
  | nil =>
    refine wpAny_mono (ESrc.done T a R F l rfl S) (fun r s1 h1 => ?_) fun _ _ e => e.elim
    obtain ⟨W1, rfl, l1, R1, F1⟩ := h1
    exact wpAny_mono (h.run A W1 s1 a R1 F1) (fun f s2 h2 => h2.le l1) fun _ _ e => e.elim
  | cons x xs =>
    refine wpAny_mono (ESrc.step (elts := elts) (n1 := n1) (pos := tpos) T a R F l rfl S) (fun r s1 h1 => ?_) fun _ _ e => e.elim
    obtain ⟨v, rfl, h1⟩ := h1
    refine wpAny_mono h1 (fun _ s1' h1 => ?_) fun _ _ e => e.elim
    obtain ⟨W1, l1, R1, F1, r1, S1⟩ := h1
    refine wpAny_mono (h.run A W1 s1' v a R1 F1 r1) (fun _ s2 h2 => ?_) fun _ _ e => e.elim
    obtain ⟨W2, ρ2, σ2, l2, R2, F2, h2⟩ := h2
    refine wpAny_mono (h2.run A W2 s2 a R2 F2) (fun f s3 h3 => ?_) fun _ _ e => e.elim
    obtain ⟨W3, c, ρ3, σ3, l3, R3, F3, rc, h3⟩ := h3
    have lw := (l1.trans l2).trans l3
    have S3 := S1.le (l2.trans l3)
    have hlt : xs.length < n := by rw [← hlen]; simp
    cases c with
    | next => cases rc; exact ⟨_, hlt, W3, ρ3, σ3, xs, i + 1, rfl, lw, R3, F3, S3, h3⟩
    | cont => cases rc; exact ⟨_, hlt, W3, ρ3, σ3, xs, i + 1, rfl, lw, R3, F3, S3, h3⟩
    | brk => cases rc; exact ⟨W3, .next, ρ3, σ3, lw, R3, F3, rfl, h3⟩
    | ret p => obtain ⟨u, rfl, ru⟩ := rc; exact ⟨W3, .ret p, ρ3, σ3, lw, R3, F3, ⟨u, rfl, ru⟩, h3⟩
theorem Le.push2 {W : Map} {s : Shared} (R : HRel X W σ s) (x y : Slot) : Le W ((W.set s.heap.objs.size x).set (s.heap.objs.size + 1) y) := by
  have n1 := R.new
  have n2 : W (s.heap.objs.size + 1) = .no := R.above (Nat.le_succ _)
  have ne : ∀ b, W b ≠ .no → b ≠ s.heap.objs.size ∧ b ≠ s.heap.objs.size + 1 := fun b hb => ⟨by rintro rfl; exact hb n1, by rintro rfl; exact hb n2⟩
  exact (Le.refl W).off fun b hb => (Map.set_ne (ne b hb).2).trans (Map.set_ne (ne b hb).1)
theorem HRel.push2 (T : X.Ok) {W : Map} {s : Shared} (R : HRel X W σ s) {o1 o2 : Obj} {h' : Heap} (keep : ∀ b o, s.heap.get? b = some o → h'.get? b = some o) (h1 : h'.get? s.heap.objs.size = some o1) (h2 : h'.get? (s.heap.objs.size + 1) = some o2) (t : Nat) :
    HRel X ((W.set s.heap.objs.size (.hid o1)).set (s.heap.objs.size + 1) (.hid o2)) σ { s with heap := h', toks := t } := by
  have l := Le.push2 R (.hid o1) (.hid o2)
  have n1 := R.new
  have n2 : W (s.heap.objs.size + 1) = .no := R.above (Nat.le_succ _)
  refine ⟨fun b => ?_, fun b o q hb => l.fro _ _ (R.old b o q hb), fun b hb => ?_, fun b c => ?_, R.os, R.gens⟩
  · by_cases a2 : b = s.heap.objs.size + 1
    · subst a2; rw [Map.set_self]; exact h2
    · rw [Map.set_ne a2]
      by_cases a1 : b = s.heap.objs.size
      · subst a1; rw [Map.set_self]; exact h1
      · rw [Map.set_ne a1]; exact (R.ok b).mono T l.fro (keep b)
  · have q := R.tab b hb
    rw [Map.set_ne (by first | exact nq q (n2) rfl | exact Ne.symm (nq q (n2) rfl) | (rintro rfl; rw [n2] at q; cases q)), Map.set_ne (by first | exact nq q (n1) rfl | exact Ne.symm (nq q (n1) rfl) | (rintro rfl; rw [n1] at q; cases q))]; exact q
  · rw [R.cel]
    by_cases a2 : b = s.heap.objs.size + 1
    · subst a2; rw [Map.set_self, n2]; simp
    · rw [Map.set_ne a2]
      by_cases a1 : b = s.heap.objs.size
      · subst a1; rw [Map.set_self, n1]; simp
      · rw [Map.set_ne a1]
/-- for i, x in enumerate(e) -/
theorem T1.forE (T : X.Ok) {elts : List Expr} {n1 : Nat} {tpos : Pos} {f : Str} {e : Expr} {p cpos : Pos} {body orelse : List Stmt} {pos : Pos} {Q : Ctl → Loc → Sto → Prop}
    (hk : env.kindOf f = some .globalImplicit) (hv : X.glob f = some (.type "enumerate")) (hd : (f == ("__debug__" : Str)) = false) (hn : noStar [e] = true)
    (h : TE X k env e ρ σ fun p σ1 => ∃ xs, (p = .lst xs ∨ p = .tup xs) ∧ TFor X k env (.Tuple elts n1 tpos) body orelse (enumP 0 xs) ρ σ1 Q) :
    T1 X k env (.For (.Tuple elts n1 tpos) (.Call (.Name f p) [e] [] cpos) body orelse pos) ρ σ Q := .mk fun A W s a R F => by
  refine wpAny_For ?_ (folded_plain rfl)
  refine callName T hk hv hd rfl hn (P := fun ps σ1 => ∃ xs, (ps = [.lst xs] ∨ ps = [.tup xs]) ∧ TFor X k env (.Tuple elts n1 tpos) body orelse (enumP 0 xs) ρ σ1 Q) ?_ a R F (fun vs s1 h1 => ?_)
  · refine TE.mono h fun p σ1 ⟨xs, hp, hq⟩ => ⟨xs, ?_, hq⟩
    rcases hp with rfl | rfl
    · exact .inl rfl
    · exact .inr rfl
  obtain ⟨W1, ps, σ1, l1, R1, F1, rs, xs, hp, hq⟩ := h1
  have n1' : W s1.heap.objs.size = .no := l1.no _ R1.new
  have n2' : W (s1.heap.objs.size + 1) = .no := l1.no _ (R1.above (Nat.le_succ _))
  have nz : s1.heap.objs.size + 1 ≠ s1.heap.objs.size := Nat.succ_ne_self _
  rcases hp with rfl | rfl
  · obtain ⟨v, _, rfl, r, rfl⟩ := rs
    obtain ⟨al, us, n, rfl, hW, hz, hu⟩ := r
    refine call_enumerate_list ⟨_, R1.fro hW, rfl, _, rfl⟩ fun h' he hit hsz keep => ?_
    refine wpAny_pyIter_enum he ?_
    obtain ⟨oj, ho, hc, hdj⟩ := hit
    have l2 := Le.push2 R1 (.hid oj) (.hid (enumObj s1.heap.objs.size 0 .none))
    have R2 := HRel.push2 T R1 keep ho he s1.toks
    have F2 : FOk ((W1.set s1.heap.objs.size (.hid oj)).set (s1.heap.objs.size + 1) (.hid (enumObj s1.heap.objs.size 0 .none))) env ρ h' := (FOk.ext R1 F1 keep).goF l2.toF fun b _ => rfl
    refine TFor.okE T a (l1.trans l2) R2 F2 (i := 0) (.list (j := s1.heap.objs.size) (l := al) (oj := oj) (vs := us) (n := n) (old := .none) n2' n1' nz (Map.set_self ..) ?_ hc hdj (l2.fro _ _ hW) (hu.le l2)) hq
    rw [Map.set_ne (Ne.symm nz), Map.set_self]
  · obtain ⟨v, _, rfl, r, rfl⟩ := rs
    obtain ⟨al, us, n, rfl, hW, hz, hu⟩ := r
    refine call_enum_tup (R1.fro hW) fun h' he hit hsz keep => ?_
    refine wpAny_pyIter_enum he ?_
    obtain ⟨oj, ho, hc, hdj⟩ := hit
    have l2 := Le.push2 R1 (.hid oj) (.hid (enumObj s1.heap.objs.size 0 .none))
    have R2 := HRel.push2 T R1 keep ho he s1.toks
    have F2 : FOk ((W1.set s1.heap.objs.size (.hid oj)).set (s1.heap.objs.size + 1) (.hid (enumObj s1.heap.objs.size 0 .none))) env ρ h' := (FOk.ext R1 F1 keep).goF l2.toF fun b _ => rfl
    refine TFor.okE T a (l1.trans l2) R2 F2 (i := 0) (.tup (j := s1.heap.objs.size) (l := al) (oj := oj) (vs := us) (n := n) (old := .none) n2' n1' nz (Map.set_self ..) ?_ hc hdj (l2.fro _ _ hW) (hu.le l2)) hq
    rw [Map.set_ne (Ne.symm nz), Map.set_self]
end
end Mine

end
section
open PySem PySem.W PyProof.Rows
set_option Elab.async false
set_option linter.unusedVariables false
set_option maxRecDepth 100000
set_option maxHeartbeats 1000000
namespace Mine
variable {X : Txt}
/-! data that stands in the text -/
noncomputable def intIs (i : Int) : Value → Bool
  | .int j _ => i == j
  | _ => false
theorem intIs_ok {i : Int} {v : Value} (h : intIs i v = true) : ∃ t, v = .int i t := by
  cases v <;> first | cases h; done | exact ⟨_, by rw [beq_iff_eq.mp h]⟩
noncomputable def strIs (s : Str) : Value → Bool
  | .str t _ => s == t
  | _ => false
theorem strIs_ok {s : Str} {v : Value} (h : strIs s v = true) : ∃ t, v = .str s t := by
  cases v <;> first | cases h; done | exact ⟨_, by rw [beq_iff_eq.mp h]⟩
noncomputable def tupAt (o : Obj) : Bool := o.cls == .type "tuple" && (o.dict.isNone && o.slots.toList.isEmpty)
theorem tupAt_ok {o : Obj} {p : Array Value × Nat} (h : tupAt o = true) (e : seqD o.data = some p) : o = tupObj p.1.toList p.2 := by
  obtain ⟨h1, h⟩ := two_ok h
  obtain ⟨h2, h3⟩ := two_ok h
  obtain ⟨c, d, dt, sl⟩ := o
  have e1 : c = _ := beq_iff_eq.mp h1
  have e2 : d = none := Option.isNone_iff_eq_none.mp h2
  have e3 : sl = #[] := Array.toList_eq_nil_iff.mp (List.isEmpty_iff.mp h3)
  have e4 : dt = _ := seqD_ok e
  rw [e1, e2, e3, e4]
mutual
noncomputable def inK (K : Frag) : PV → Value → Bool
  | .int i, v => intIs i v
  | .str s, v => strIs s v && Nat.ble s.length 1000
  | .tup xs, v => (refV v).any fun a => (K.lookup a).any fun o => tupAt o && (seqD o.data).any fun p => inKs K xs p.1.toList && Nat.ble p.1.toList.length 1000
  | _, _ => false
noncomputable def inKs (K : Frag) : List PV → List Value → Bool
  | [], vs => vs.isEmpty
  | x :: xs, vs => (vs.head?).any (fun v => inK K x v) && inKs K xs vs.tail
end
theorem few_big {n : Nat} (h : Nat.ble n 1000 = true) : n ≤ sizeLine := Nat.le_trans (Nat.le_of_ble_eq_true h) (by decide)
mutual
theorem inK_rel {K : Frag} {W : Map} (hW : ∀ a o, K.lookup a = some o → W a = .fro o) : ∀ (p : PV) (v : Value), inK K p v = true → VRel W p v
  | .int i, v, h => intIs_ok h
  | .str s, v, h => ⟨few_big (two_ok h).2, strIs_ok (two_ok h).1⟩
  | .tup xs, v, h => by
    obtain ⟨a, e1, h⟩ := any_ok h
    obtain ⟨o, e2, h⟩ := any_ok h
    obtain ⟨h3, h⟩ := two_ok h
    obtain ⟨p, e4, h⟩ := any_ok h
    obtain ⟨h5, h6⟩ := two_ok h
    exact ⟨a, p.1.toList, p.2, refV_ok e1, (hW _ _ e2).trans (congrArg Slot.fro (tupAt_ok h3 e4)), few_big h6, inKs_rel hW xs _ h5⟩
  | .none, _, h => absurd h Bool.false_ne_true
  | .bool _, _, h => absurd h Bool.false_ne_true
  | .lst _, _, h => absurd h Bool.false_ne_true
  | .ptr _, _, h => absurd h Bool.false_ne_true
  | .glob _, _, h => absurd h Bool.false_ne_true
  | .slc _ _ _, _, h => absurd h Bool.false_ne_true
theorem inKs_rel {K : Frag} {W : Map} (hW : ∀ a o, K.lookup a = some o → W a = .fro o) : ∀ (xs : List PV) (vs : List Value), inKs K xs vs = true → VRels W xs vs
  | [], _, h => List.isEmpty_iff.mp h
  | x :: xs, [], h => absurd h Bool.false_ne_true
  | x :: xs, v :: vs, h => ⟨v, vs, rfl, inK_rel hW x v (two_ok h).1, inKs_rel hW xs vs (two_ok h).2⟩
end
theorem HRel.froK (T : X.Ok) {W : Map} {σ : Sto} {s : Shared} (R : HRel X W σ s) {a : Addr} {o : Obj} (e : X.K.lookup a = some o) : W a = .fro o :=
  R.old a o (T.inK _ _ e) fun hm => by have := (T.tabK a hm).1; rw [this] at e; cases e
theorem TE.globK (T : X.Ok) {k : Nat} {env : Env} {ρ : Loc} {σ : Sto} {x : Str} {pos : Pos} {v : Value} {p : PV} {Q : PV → Sto → Prop} (hk : env.kindOf x = some .globalImplicit) (hv : X.glob x = some v) (hd : (x == ("__debug__" : Str)) = false) (hp : inK X.K p v = true) (h : Q p σ) :
    TE X k env (.Name x pos) ρ σ Q := .mk fun A W s a R F =>
  gname F.kind F.glb F.blt (R.g T) (R.b T) hk hv hd (VPost.here R F (inK_rel (fun _ _ e => R.froK T e) p v hp) h)
end Mine

end
section
open PySem PySem.W PyProof.Rows
set_option Elab.async false
set_option linter.unusedVariables false
set_option maxRecDepth 100000
set_option maxHeartbeats 2000000
namespace Mine
open AutoSeq1 (wpAny_loadPart')
open MeetsSeq MeetsSeq2 MeetsSeq3 SeqAt
/-- the order of lists of texts -/
noncomputable def lexLt : List Str → List Str → Bool
  | [], [] => false
  | [], _ :: _ => true
  | _ :: _, [] => false
  | x :: xs, y :: ys => if x == y then lexLt xs ys else decide (x.cps.toList < y.cps.toList)
theorem sv_get {l : List (Str × Tok)} {i : Nat} {p : Str × Tok} (h : l[i]? = some p) : (strValues l).toArray[((i : Nat) : Int).toNat]? = some (.str p.1 p.2) := by
  simp [strValues, h]
theorem sv_none {l : List (Str × Tok)} {i : Nat} (h : l[i]? = none) : (strValues l).toArray[((i : Nat) : Int).toNat]? = none := by
  have := List.getElem?_eq_none_iff.mp h
  simp [strValues]; omega
theorem sv_size (l : List (Str × Tok)) : (strValues l).toArray.size = l.length := by simp [strValues]

theorem lt_loop (l b : Addr) (lx ly : List (Str × Tok)) (n n2 : Nat) : ∀ (k i : Nat), lx.length - i = k → i ≤ lx.length → i ≤ ly.length → Meets (Builtin.«list.__eq__.loop» ⟨[.ref l, .ref b, rawInt i, rawInt 0], []⟩)
      (fun A R s => s.heap.get? l = some { cls := .type "list", dict := none, data := .seq (strValues lx).toArray n, slots := #[] } ∧ s.heap.get? b = some { cls := .type "list", dict := none, data := .seq (strValues ly).toArray n2, slots := #[] } ∧
        R (.ok (.ret (.bool (lexLt ((lx.drop i).map (·.1)) ((ly.drop i).map (·.1)))))) s) := by
  intro k
  induction k with
  | zero =>
    intro i hk hi hi2 prog w A R s h
    obtain ⟨hp, g, d, tk, os⟩ := s; obtain ⟨hl, hb, h⟩ := h
    wp_walk using wpAny_loadPart' hl, wpAny_loadPart' hb
    have e1 : lx[i]? = none := by simp; omega
    have hd : lx.drop i = [] := by simp; omega
    rw [hd] at h
    rw [sv_none e1]
    have fin : R (.ok (.ret (.bool (decide (lx.length < ly.length))))) ⟨hp, g, d, tk, os⟩ := by
      have q : (decide (lx.length < ly.length)) = (lexLt (([] : List (Str × Tok)).map (·.1)) ((ly.drop i).map (·.1))) := by
        cases hy : ly.drop i with
        | nil =>
          have := List.drop_eq_nil_iff.mp hy
          simp [lexLt]; omega
        | cons y r =>
          have : (ly.drop i).length = (y :: r).length := by rw [hy]
          simp at this
          simp [lexLt]; omega
      rw [q]; exact h
    cases e2 : ly[i]? with
    | none =>
      rw [sv_none e2]
      wp_walk using wpAny_loadPart' hl, wpAny_loadPart' hb
      show R (.ok (.ret (.bool (decide ((strValues lx).toArray.size < (strValues ly).toArray.size))))) _
      rw [sv_size, sv_size]; exact fin
    | some y =>
      rw [sv_get e2]
      wp_walk using wpAny_loadPart' hl, wpAny_loadPart' hb
      show R (.ok (.ret (.bool (decide ((strValues lx).toArray.size < (strValues ly).toArray.size))))) _
      rw [sv_size, sv_size]; exact fin
  | succ k ih =>
    intro i hk hi hi2 prog w A R s h
    obtain ⟨hp, g, d, tk, os⟩ := s; obtain ⟨hl, hb, h⟩ := h
    wp_walk using wpAny_loadPart' hl, wpAny_loadPart' hb
    have hlt : i < lx.length := by omega
    have e1 : lx[i]? = some lx[i] := List.getElem?_eq_getElem hlt
    have hd : lx.drop i = lx[i] :: lx.drop (i + 1) := List.drop_eq_getElem_cons hlt
    rw [hd, List.map_cons] at h
    rw [sv_get e1]
    cases e2 : ly[i]? with
    | none =>
      rw [sv_none e2]
      have hge : ly.length ≤ i := List.getElem?_eq_none_iff.mp e2
      have hd2 : ly.drop i = [] := List.drop_eq_nil_iff.mpr hge
      wp_walk using wpAny_loadPart' hl, wpAny_loadPart' hb
      show R (.ok (.ret (.bool (decide ((strValues lx).toArray.size < (strValues ly).toArray.size))))) _
      rw [sv_size, sv_size]
      rw [hd2] at h
      have q : (decide (lx.length < ly.length)) = false := by simp; omega
      rw [q]; exact h
    | some y =>
      rw [sv_get e2]
      obtain ⟨hlt2, ey⟩ := List.getElem?_eq_some_iff.mp e2
      have hd2 : ly.drop i = y :: ly.drop (i + 1) := by rw [List.drop_eq_getElem_cons hlt2, ey]
      rw [hd2, List.map_cons] at h
      have hc : ((i : Int) + 1) = ((i + 1 : Nat) : Int) := by push_cast; rfl
      generalize lx[i] = x at h e1
      refine wpAny_bind (EqAt.str_str x.1 x.2 y.1 y.2 prog w _ _ ?_)
      cases hb' : (x.1 == y.1) with
      | true =>
        have hxy : (x.1 == y.1) = true := by rw [beq_iff_eq] at hb' ⊢; exact hb'
        simp only [lexLt, hxy, if_true] at h
        wp_walk
        rw [hc]
        exact ⟨plainId_quiet plain_eq_loop _, codeAny_builtin entry_eq_loop (by
          rw [Around.under_plainId plain_eq_loop _]
          exact ih (i + 1) (by omega) (by omega) (by omega) prog w A R _ ⟨hl, hb, h⟩)⟩
      | false =>
        have hxy : (x.1 == y.1) = false := by rw [beq_eq_false_iff_ne] at hb' ⊢; exact hb'
        simp only [lexLt, hxy, Bool.false_eq_true, if_false] at h
        wp_walk using wpAny_loadPart' hl, wpAny_loadPart' hb
        rw [sv_get e1, sv_get e2]
        dsimp only
        refine wpAny_bind (richCompare_gives (op := .Lt) (typeIs_str _ x.1 x.2) (typeIs_str _ y.1 y.2) PySem.F.slot_str_lt PySem.F.entry_str_lt (PySem.F.args_str_lt_2 _ _) (gives_str_lt x.1 y.1 x.2 y.2) (fun e => nomatch e) ?_)
        exact wpAny_pure h

theorem list_lt (l b : Addr) (lx ly : List (Str × Tok)) (n n2 : Nat) : Meets (Builtin.«list.__lt__» ⟨[.ref l, .ref b], []⟩)
      (fun A R s => s.heap.get? l = some { cls := .type "list", dict := none, data := .seq (strValues lx).toArray n, slots := #[] } ∧ s.heap.get? b = some { cls := .type "list", dict := none, data := .seq (strValues ly).toArray n2, slots := #[] } ∧
        R (.ok (.ret (.bool (lexLt (lx.map (·.1)) (ly.map (·.1)))))) s) := by
  intro prog w A R s h
  obtain ⟨hp, g, d, tk, os⟩ := s; obtain ⟨hl, hb, h⟩ := h
  have f3 := AutoSeq1.sub_list_list
  wp_walk using wpAny_loadPart' hl, wpAny_loadPart' hb
  exact ⟨plainId_quiet plain_eq_loop _, codeAny_builtin entry_eq_loop (by
    rw [Around.under_plainId plain_eq_loop _]
    exact lt_loop l b lx ly n n2 _ 0 rfl (Nat.zero_le _) (Nat.zero_le _) prog w A R _ ⟨hl, hb, by simpa using h⟩)⟩
theorem rc_lt {prog : Program} {w : World} {A : Around} {E : Value → Shared → Prop} {s : Shared} {l b : Addr} {lx ly : List (Str × Tok)} {n n2 : Nat} {Q : Value → Shared → Prop} (hu : A.units < cLine)
    (hl : s.heap.get? l = some { cls := .type "list", dict := none, data := .seq (strValues lx).toArray n, slots := #[] }) (hb : s.heap.get? b = some { cls := .type "list", dict := none, data := .seq (strValues ly).toArray n2, slots := #[] })
    (h : Q (.bool (lexLt (lx.map (·.1)) (ly.map (·.1)))) s) : wpAny (model prog w) A (richCompare .Lt (.ref l) (.ref b)) Q E s :=
  richCompare_meets_room (op := .Lt) ⟨_, hl, rfl⟩ ⟨_, hb, rfl⟩ PySem.F.slot_list_lt PySem.F.entry_list_lt (PySem.F.args_list_lt_2 _ _) (list_lt l b lx ly n n2) ⟨hl, hb, ⟨fun e => (by cases e), h⟩⟩ hu

theorem gt_loop (l b : Addr) (lx ly : List (Str × Tok)) (n n2 : Nat) : ∀ (k i : Nat), lx.length - i = k → i ≤ lx.length → i ≤ ly.length → Meets (Builtin.«list.__eq__.loop» ⟨[.ref l, .ref b, rawInt i, rawInt 4], []⟩)
      (fun A R s => s.heap.get? l = some { cls := .type "list", dict := none, data := .seq (strValues lx).toArray n, slots := #[] } ∧ s.heap.get? b = some { cls := .type "list", dict := none, data := .seq (strValues ly).toArray n2, slots := #[] } ∧
        R (.ok (.ret (.bool (lexLt ((ly.drop i).map (·.1)) ((lx.drop i).map (·.1)))))) s) := by
  intro k
  induction k with
  | zero =>
    intro i hk hi hi2 prog w A R s h
    obtain ⟨hp, g, d, tk, os⟩ := s; obtain ⟨hl, hb, h⟩ := h
    wp_walk using wpAny_loadPart' hl, wpAny_loadPart' hb
    have e1 : lx[i]? = none := by simp; omega
    have hd : lx.drop i = [] := by simp; omega
    rw [hd] at h
    rw [sv_none e1]
    have fin : R (.ok (.ret (.bool (decide (lx.length > ly.length))))) ⟨hp, g, d, tk, os⟩ := by
      have q : (decide (lx.length > ly.length)) = (lexLt ((ly.drop i).map (·.1)) (([] : List (Str × Tok)).map (·.1))) := by
        cases hy : ly.drop i with
        | nil =>
          have := List.drop_eq_nil_iff.mp hy
          simp [lexLt]; omega
        | cons y r =>
          have : (ly.drop i).length = (y :: r).length := by rw [hy]
          simp at this
          simp [lexLt]; omega
      rw [q]; exact h
    cases e2 : ly[i]? with
    | none =>
      rw [sv_none e2]
      wp_walk using wpAny_loadPart' hl, wpAny_loadPart' hb
      show R (.ok (.ret (.bool (decide ((strValues lx).toArray.size > (strValues ly).toArray.size))))) _
      rw [sv_size, sv_size]; exact fin
    | some y =>
      rw [sv_get e2]
      wp_walk using wpAny_loadPart' hl, wpAny_loadPart' hb
      show R (.ok (.ret (.bool (decide ((strValues lx).toArray.size > (strValues ly).toArray.size))))) _
      rw [sv_size, sv_size]; exact fin
  | succ k ih =>
    intro i hk hi hi2 prog w A R s h
    obtain ⟨hp, g, d, tk, os⟩ := s; obtain ⟨hl, hb, h⟩ := h
    wp_walk using wpAny_loadPart' hl, wpAny_loadPart' hb
    have hlt : i < lx.length := by omega
    have e1 : lx[i]? = some lx[i] := List.getElem?_eq_getElem hlt
    have hd : lx.drop i = lx[i] :: lx.drop (i + 1) := List.drop_eq_getElem_cons hlt
    rw [hd, List.map_cons] at h
    rw [sv_get e1]
    cases e2 : ly[i]? with
    | none =>
      rw [sv_none e2]
      have hge : ly.length ≤ i := List.getElem?_eq_none_iff.mp e2
      have hd2 : ly.drop i = [] := List.drop_eq_nil_iff.mpr hge
      wp_walk using wpAny_loadPart' hl, wpAny_loadPart' hb
      show R (.ok (.ret (.bool (decide ((strValues lx).toArray.size > (strValues ly).toArray.size))))) _
      rw [sv_size, sv_size]
      rw [hd2] at h
      have q : (decide (lx.length > ly.length)) = true := by simp; omega
      rw [q]; exact h
    | some y =>
      rw [sv_get e2]
      obtain ⟨hlt2, ey⟩ := List.getElem?_eq_some_iff.mp e2
      have hd2 : ly.drop i = y :: ly.drop (i + 1) := by rw [List.drop_eq_getElem_cons hlt2, ey]
      rw [hd2, List.map_cons] at h
      have hc : ((i : Int) + 1) = ((i + 1 : Nat) : Int) := by push_cast; rfl
      generalize lx[i] = x at h e1
      refine wpAny_bind (EqAt.str_str x.1 x.2 y.1 y.2 prog w _ _ ?_)
      cases hb' : (x.1 == y.1) with
      | true =>
        have hxy : (y.1 == x.1) = true := by rw [beq_iff_eq] at hb' ⊢; exact hb'.symm
        simp only [lexLt, hxy, if_true] at h
        wp_walk
        rw [hc]
        exact ⟨plainId_quiet plain_eq_loop _, codeAny_builtin entry_eq_loop (by
          rw [Around.under_plainId plain_eq_loop _]
          exact ih (i + 1) (by omega) (by omega) (by omega) prog w A R _ ⟨hl, hb, h⟩)⟩
      | false =>
        have hxy : (y.1 == x.1) = false := by rw [beq_eq_false_iff_ne] at hb' ⊢; exact fun e => hb' e.symm
        simp only [lexLt, hxy, Bool.false_eq_true, if_false] at h
        wp_walk using wpAny_loadPart' hl, wpAny_loadPart' hb
        rw [sv_get e1, sv_get e2]
        dsimp only
        refine wpAny_bind (richCompare_gives (op := .Gt) (typeIs_str _ x.1 x.2) (typeIs_str _ y.1 y.2) PySem.F.slot_str_gt PySem.F.entry_str_gt (PySem.F.args_str_gt_2 _ _) (gives_str_gt x.1 y.1 x.2 y.2) (fun e => nomatch e) ?_)
        exact wpAny_pure h

theorem list_gt (l b : Addr) (lx ly : List (Str × Tok)) (n n2 : Nat) : Meets (Builtin.«list.__gt__» ⟨[.ref l, .ref b], []⟩)
      (fun A R s => s.heap.get? l = some { cls := .type "list", dict := none, data := .seq (strValues lx).toArray n, slots := #[] } ∧ s.heap.get? b = some { cls := .type "list", dict := none, data := .seq (strValues ly).toArray n2, slots := #[] } ∧
        R (.ok (.ret (.bool (lexLt (ly.map (·.1)) (lx.map (·.1)))))) s) := by
  intro prog w A R s h
  obtain ⟨hp, g, d, tk, os⟩ := s; obtain ⟨hl, hb, h⟩ := h
  have f3 := AutoSeq1.sub_list_list
  wp_walk using wpAny_loadPart' hl, wpAny_loadPart' hb
  exact ⟨plainId_quiet plain_eq_loop _, codeAny_builtin entry_eq_loop (by
    rw [Around.under_plainId plain_eq_loop _]
    exact gt_loop l b lx ly n n2 _ 0 rfl (Nat.zero_le _) (Nat.zero_le _) prog w A R _ ⟨hl, hb, by simpa using h⟩)⟩
theorem rc_gt {prog : Program} {w : World} {A : Around} {E : Value → Shared → Prop} {s : Shared} {l b : Addr} {lx ly : List (Str × Tok)} {n n2 : Nat} {Q : Value → Shared → Prop} (hu : A.units < cLine)
    (hl : s.heap.get? l = some { cls := .type "list", dict := none, data := .seq (strValues lx).toArray n, slots := #[] }) (hb : s.heap.get? b = some { cls := .type "list", dict := none, data := .seq (strValues ly).toArray n2, slots := #[] })
    (h : Q (.bool (lexLt (ly.map (·.1)) (lx.map (·.1)))) s) : wpAny (model prog w) A (richCompare .Gt (.ref l) (.ref b)) Q E s :=
  richCompare_meets_room (op := .Gt) ⟨_, hl, rfl⟩ ⟨_, hb, rfl⟩ PySem.F.slot_list_gt PySem.F.entry_list_gt (PySem.F.args_list_gt_2 _ _) (list_gt l b lx ly n n2) ⟨hl, hb, ⟨fun e => (by cases e), h⟩⟩ hu
end Mine

end
section
open PySem PySem.W PyProof.Rows
set_option Elab.async false
set_option linter.unusedVariables false
set_option maxRecDepth 100000
set_option maxHeartbeats 2000000
namespace Mine
/-! min and max of things that are told apart by what stands in the heap -/
noncomputable def CmpIn (prog : Program) (w : World) (A : Around) (op : CmpOp) (P : Nat → Value → Prop) (bt : Nat → Nat → Bool) (Hd : Heap → Prop) : Prop :=
  ∀ i j vi vj (s : Shared) (Q : Value → Shared → Prop) (E : Value → Shared → Prop), Hd s.heap → P i vi → P j vj → Q (.bool (bt i j)) s → wpAny (model prog w) A (richCompare op vi vj) Q E s

section
variable {prog : Program} {w : World} {A : Around} {R : Result → Shared → Prop} {I : Addr} {fp wr : List Addr} {n : Nat} {P : Nat → Value → Prop} {St : Nat → Heap → Prop} {Hd : Heap → Prop}
theorem min_loopH (W : Walks prog w A.in1 I fp wr n P St) (bt : Nat → Nat → Bool) (hcmp : CmpIn prog w A.in1 .Lt P bt Hd) (S : Addr) (hSf : S ∉ fp) (hH : ∀ h h', Hd h → (∀ b o, b ∉ wr → b ≠ S → h.get? b = some o → h'.get? b = some o) → Hd h') :
    ∀ (k j : Nat) (s : Shared) (vb : Value) (c : Nat), n - (j + 1) = k → j + 1 ≤ n → St (j + 1) s.heap → Hd s.heap → P (argBest bt j) vb →
    s.heap.get? S = some { cls := .type "list", dict := none, data := .seq #[vb, vb] c, slots := #[] } →
    (∀ v h' tk, P (argBest bt (n - 1)) v → (∀ b o, b ∉ wr → b ≠ S → s.heap.get? b = some o → h'.get? b = some o) → R (.ok (.ret v)) { s with heap := h', toks := tk }) →
    codeAny (model prog w) A (.builtin "min.loop" ⟨[.ref I, .none, .ref S], []⟩) R s := by
  have hSw : S ∉ wr := fun h => hSf (W.sub _ h)
  have hname : (toString "min" ++ toString ".loop" : String) = "min.loop" := by decide
  intro k
  induction k with
  | zero =>
    intro j s vb c hk hj hst hhd hPb hS hR
    have hin : j + 1 = n := by omega
    refine codeAny_builtin F.entry_min_loop ?_
    rw [Around.under_plainId F.plain_min_loop _]
    show wpAny _ A.in1 (seqItems? (.ref S) >>= _) _ _ s
    refine wpAny_bind (wpAny_seqItems hS rfl ?_)
    show wpAny _ A.in1 (tryCatch (pyNext (.ref I)) _ >>= _) _ _ s
    refine wpAny_bind (wpAny_tryCatch (W.done s _ _ (hin ▸ hst) fun h' tk hk' => ?_))
    have hS' := hk' S _ hSw hS
    show wpAny _ A.in1 (updateSeq S (fun _ => #[]) >>= _) _ _ _
    refine wpAny_bind ?_
    refine wpAny_updateSeq hS' rfl (wpAny_bind (wpAny_letGo (wpAny_pure ?_)))
    refine hR vb _ tk (by rw [← hin]; exact hPb) fun b o hbw hbS e => (Heap.get?_update_other _ _ (Ne.symm hbS)).trans (hk' b o hbw e)
  | succ k ih =>
    intro j s vb c hk hj hst hhd hPb hS hR
    have hlt : j + 1 < n := by omega
    refine codeAny_builtin F.entry_min_loop ?_
    rw [Around.under_plainId F.plain_min_loop _]
    show wpAny _ A.in1 (seqItems? (.ref S) >>= _) _ _ s
    refine wpAny_bind (wpAny_seqItems hS rfl ?_)
    show wpAny _ A.in1 (tryCatch (pyNext (.ref I)) _ >>= _) _ _ s
    refine wpAny_bind (wpAny_tryCatch (W.item (j + 1) s _ _ hlt hst fun v h' tk hP hst' hk' => ?_))
    have hS' := hk' S _ hSw hS
    have hhd' : Hd h' := hH _ _ hhd fun b o hbw _ e => hk' b o hbw e
    show wpAny _ A.in1 (tryCatch (holding [v, v] (richCompare .Lt v vb >>= _)) _ >>= _) _ _ _
    refine wpAny_bind (wpAny_tryCatch (wpAny_holding (wpAny_bind (hcmp (j + 1) (argBest bt j) v vb _ _ _ hhd' hP hPb ?_))))
    refine wpAny_bind (wpAny_holding (wpAny_truthy_bool ?_))
    refine wpAny_bind (wpAny_letGo (wpAny_pure ?_))
    cases hb : bt (j + 1) (argBest bt j) with
    | true =>
      simp only [if_true]
      refine wpAny_bind ?_
      refine wpAny_updateSeq hS' rfl (wpAny_bind (wpAny_letGo ?_))
      rw [hname]
      refine wpAny_pure ⟨plainId_quiet F.plain_min_loop _, ih (j + 1) _ v _ (by omega) hlt (W.frame _ _ _ hst' fun b hbf o e => ?_) (hH _ _ hhd' fun b o _ hbS e => (Heap.get?_update_other _ _ (Ne.symm hbS)).trans e) (by simp only [argBest, hb, if_true]; exact hP) (Heap.get?_update_self _ hS' rfl)
        fun v' h'' tk'' hP' hk'' => ?_⟩
      · exact (Heap.get?_update_other _ _ (fun h : S = b => hSf (by rw [h]; exact hbf))).trans e
      · exact hR v' h'' tk'' hP' fun b o hbw hbS e => hk'' b o hbw hbS ((Heap.get?_update_other _ _ (Ne.symm hbS)).trans (hk' b o hbw e))
    | false =>
      simp only [Bool.false_eq_true, if_false]
      refine wpAny_bind (wpAny_letGo ?_)
      rw [hname]
      refine wpAny_pure ⟨plainId_quiet F.plain_min_loop _, ih (j + 1) _ vb c (by omega) hlt hst' hhd' (by simp only [argBest, hb, Bool.false_eq_true, if_false]; exact hPb) hS' fun v' h'' tk'' hP' hk'' => ?_⟩
      exact hR v' h'' tk'' hP' fun b o hbw hbS e => hk'' b o hbw hbS (hk' b o hbw e)
theorem min_firstH (W : Walks prog w A.in1 I fp wr n P St) (bt : Nat → Nat → Bool) (hcmp : CmpIn prog w A.in1 .Lt P bt Hd) (S : Addr) (hSf : S ∉ fp) (hH : ∀ h h', Hd h → (∀ b o, b ∉ wr → b ≠ S → h.get? b = some o → h'.get? b = some o) → Hd h') (hn : 0 < n) {s : Shared} {c : Nat} (hst : St 0 s.heap) (hhd : Hd s.heap)
    (hS : s.heap.get? S = some { cls := .type "list", dict := none, data := .seq #[] c, slots := #[] })
    (hR : ∀ v h' tk, P (argBest bt (n - 1)) v → (∀ b o, b ∉ wr → b ≠ S → s.heap.get? b = some o → h'.get? b = some o) → R (.ok (.ret v)) { s with heap := h', toks := tk }) :
    codeAny (model prog w) A (.builtin "min.loop" ⟨[.ref I, .none, .ref S], []⟩) R s := by
  have hSw : S ∉ wr := fun h => hSf (W.sub _ h)
  have hname : (toString "min" ++ toString ".loop" : String) = "min.loop" := by decide
  refine codeAny_builtin F.entry_min_loop ?_
  rw [Around.under_plainId F.plain_min_loop _]
  show wpAny _ A.in1 (seqItems? (.ref S) >>= _) _ _ s
  refine wpAny_bind (wpAny_seqItems hS rfl ?_)
  show wpAny _ A.in1 (tryCatch (pyNext (.ref I)) _ >>= _) _ _ s
  refine wpAny_bind (wpAny_tryCatch (W.item 0 s _ _ hn hst fun v h' tk hP hst' hk' => ?_))
  have hS' := hk' S _ hSw hS
  have hhd' : Hd h' := hH _ _ hhd fun b o hbw _ e => hk' b o hbw e
  show wpAny _ A.in1 (updateSeq S (fun _ => #[v, v]) >>= _) _ _ _
  refine wpAny_bind ?_
  refine wpAny_updateSeq hS' rfl ?_
  rw [hname]
  refine wpAny_pure ⟨plainId_quiet F.plain_min_loop _, min_loopH W bt hcmp S hSf hH _ 0 _ v _ rfl hn (W.frame _ _ _ hst' fun b hbf o e => ?_) (hH _ _ hhd' fun b o _ hbS e => (Heap.get?_update_other _ _ (Ne.symm hbS)).trans e) hP (Heap.get?_update_self _ hS' rfl) fun v' h'' tk'' hP' hk'' => ?_⟩
  · exact (Heap.get?_update_other _ _ (fun h : S = b => hSf (by rw [h]; exact hbf))).trans e
  · exact hR v' h'' tk'' hP' fun b o hbw hbS e => hk'' b o hbw hbS ((Heap.get?_update_other _ _ (Ne.symm hbS)).trans (hk' b o hbw e))
end
section
variable {prog : Program} {w : World} {A : Around} {E : Value → Shared → Prop} {s : Shared}
theorem call_minL {l : Addr} {items : Array Value} {bt : Nat → Nat → Bool} {need : List Addr} {Q : Value → Shared → Prop} (hh : A.handled = none) (hL : s.heap.IsList l items) (hn : 0 < items.size) (hneed : ∀ b ∈ need, b < s.heap.objs.size)
    (hcmp : ∀ i j vi vj (s' : Shared) (Q : Value → Shared → Prop) (E : Value → Shared → Prop), (∀ b ∈ need, ∀ o, s.heap.get? b = some o → s'.heap.get? b = some o) → items[i]? = some vi → items[j]? = some vj → Q (.bool (bt i j)) s' → wpAny (model prog w) A.in1 (richCompare .Lt vi vj) Q E s')
    (h : ∀ v h' tk, items[argBest bt (items.size - 1)]? = some v → (∀ b o, s.heap.get? b = some o → h'.get? b = some o) → Q v { s with heap := h', toks := tk }) : wpAny (model prog w) A (call (.builtin "min") [.ref l]) Q E s := by
  have hname : (toString "min" ++ toString ".loop" : String) = "min.loop" := by decide
  refine call_function_tree F.kind_min F.plain_min F.entry_min (F.args_min1 _) ?_
  show wpAny _ A.in1 (Builtin.Builtins.bindParams "min" ["key", "default"] 0 ⟨[], []⟩ >>= _) _ _ s
  refine wpAny_bind (wpAny_of_eq (show Builtin.Builtins.bindParams "min" ["key", "default"] 0 ⟨[], []⟩ = pure [none, none] from rfl) ?_)
  refine wpAny_bind (wpAny_pure ?_)
  refine wpAny_bind (wpAny_pyIter_list hL ?_)
  have hlt : l < s.heap.objs.size := by obtain ⟨_, e, _⟩ := id hL; exact Heap.lt_size e
  have hz : (s.heap.push { cls := .type "list_iterator", data := .fields #[.ref l, .int 0 0] }).objs.size = s.heap.objs.size + 1 := Heap.size_push ..
  refine wpAny_bind (wpAny_newObj_type ?_)
  dsimp only
  rw [hname, hz]
  have k1 : ∀ b o, s.heap.get? b = some o → (s.heap.push { cls := .type "list_iterator", data := .fields #[.ref l, .int 0 0] }).get? b = some o := fun b o e => Heap.get?_push_of_some _ e
  have W := Walks.list (prog := prog) (w := w) (A := A.in1) (show A.in1.handled = none from hh) s.heap.objs.size l (Nat.ne_of_lt hlt) items
  have hS : ((s.heap.push { cls := .type "list_iterator", data := .fields #[.ref l, .int 0 0] }).push { cls := .type "list", data := .seq ([] : List Value).toArray }).get? (s.heap.objs.size + 1) = some { cls := .type "list", data := .seq ([] : List Value).toArray } := by
    rw [← hz]; exact Heap.get?_push_size _ rfl
  have hst : Heap.IsListIter ((s.heap.push { cls := .type "list_iterator", data := .fields #[.ref l, .int 0 0] }).push { cls := .type "list", data := .seq ([] : List Value).toArray }) s.heap.objs.size l 0 ∧ Heap.IsList ((s.heap.push { cls := .type "list_iterator", data := .fields #[.ref l, .int 0 0] }).push { cls := .type "list", data := .seq ([] : List Value).toArray }) l items :=
    ⟨⟨_, Heap.get?_push_of_some _ (Heap.get?_push_size _ rfl), rfl, rfl⟩, hL.at fun o e => Heap.get?_push_of_some _ (k1 _ _ e)⟩
  refine wpAny_pure ⟨plainId_quiet F.plain_min_loop _, min_firstH (A := A) (Hd := fun h => ∀ b ∈ need, ∀ o, s.heap.get? b = some o → h.get? b = some o) W bt (fun i j vi vj s' Q E a b c d => hcmp i j vi vj s' Q E a b c d) (s.heap.objs.size + 1) ?_ ?_ hn hst ?_ hS fun v h' tk hP hk => ?_⟩
  · simp only [List.mem_cons, List.not_mem_nil, or_false, not_or]
    exact ⟨Nat.succ_ne_self _, Nat.ne_of_gt (Nat.lt_succ_of_lt hlt)⟩
  · intro h1 h2 hd hk b hb o e
    refine hk b o ?_ ?_ (hd b hb o e)
    · simp only [List.mem_cons, List.not_mem_nil, or_false]
      exact Nat.ne_of_lt (hneed b hb)
    · exact Nat.ne_of_lt (Nat.lt_succ_of_lt (hneed b hb))
  · exact fun b hb o e => Heap.get?_push_of_some _ (k1 _ _ e)
  · refine h v h' tk hP fun b o e => hk b o ?_ ?_ (Heap.get?_push_of_some _ (k1 _ _ e))
    · simp only [List.mem_cons, List.not_mem_nil, or_false]
      exact Nat.ne_of_lt (Heap.lt_size e)
    · exact Nat.ne_of_lt (Nat.lt_succ_of_lt (Heap.lt_size e))
end

section
variable {prog : Program} {w : World} {A : Around} {R : Result → Shared → Prop} {I : Addr} {fp wr : List Addr} {n : Nat} {P : Nat → Value → Prop} {St : Nat → Heap → Prop} {Hd : Heap → Prop}
theorem max_loopH (W : Walks prog w A.in1 I fp wr n P St) (bt : Nat → Nat → Bool) (hcmp : CmpIn prog w A.in1 .Gt P bt Hd) (S : Addr) (hSf : S ∉ fp) (hH : ∀ h h', Hd h → (∀ b o, b ∉ wr → b ≠ S → h.get? b = some o → h'.get? b = some o) → Hd h') :
    ∀ (k j : Nat) (s : Shared) (vb : Value) (c : Nat), n - (j + 1) = k → j + 1 ≤ n → St (j + 1) s.heap → Hd s.heap → P (argBest bt j) vb →
    s.heap.get? S = some { cls := .type "list", dict := none, data := .seq #[vb, vb] c, slots := #[] } →
    (∀ v h' tk, P (argBest bt (n - 1)) v → (∀ b o, b ∉ wr → b ≠ S → s.heap.get? b = some o → h'.get? b = some o) → R (.ok (.ret v)) { s with heap := h', toks := tk }) →
    codeAny (model prog w) A (.builtin "max.loop" ⟨[.ref I, .none, .ref S], []⟩) R s := by
  have hSw : S ∉ wr := fun h => hSf (W.sub _ h)
  have hname : (toString "max" ++ toString ".loop" : String) = "max.loop" := by decide
  intro k
  induction k with
  | zero =>
    intro j s vb c hk hj hst hhd hPb hS hR
    have hin : j + 1 = n := by omega
    refine codeAny_builtin F.entry_max_loop ?_
    rw [Around.under_plainId F.plain_max_loop _]
    show wpAny _ A.in1 (seqItems? (.ref S) >>= _) _ _ s
    refine wpAny_bind (wpAny_seqItems hS rfl ?_)
    show wpAny _ A.in1 (tryCatch (pyNext (.ref I)) _ >>= _) _ _ s
    refine wpAny_bind (wpAny_tryCatch (W.done s _ _ (hin ▸ hst) fun h' tk hk' => ?_))
    have hS' := hk' S _ hSw hS
    show wpAny _ A.in1 (updateSeq S (fun _ => #[]) >>= _) _ _ _
    refine wpAny_bind ?_
    refine wpAny_updateSeq hS' rfl (wpAny_bind (wpAny_letGo (wpAny_pure ?_)))
    refine hR vb _ tk (by rw [← hin]; exact hPb) fun b o hbw hbS e => (Heap.get?_update_other _ _ (Ne.symm hbS)).trans (hk' b o hbw e)
  | succ k ih =>
    intro j s vb c hk hj hst hhd hPb hS hR
    have hlt : j + 1 < n := by omega
    refine codeAny_builtin F.entry_max_loop ?_
    rw [Around.under_plainId F.plain_max_loop _]
    show wpAny _ A.in1 (seqItems? (.ref S) >>= _) _ _ s
    refine wpAny_bind (wpAny_seqItems hS rfl ?_)
    show wpAny _ A.in1 (tryCatch (pyNext (.ref I)) _ >>= _) _ _ s
    refine wpAny_bind (wpAny_tryCatch (W.item (j + 1) s _ _ hlt hst fun v h' tk hP hst' hk' => ?_))
    have hS' := hk' S _ hSw hS
    have hhd' : Hd h' := hH _ _ hhd fun b o hbw _ e => hk' b o hbw e
    show wpAny _ A.in1 (tryCatch (holding [v, v] (richCompare .Gt v vb >>= _)) _ >>= _) _ _ _
    refine wpAny_bind (wpAny_tryCatch (wpAny_holding (wpAny_bind (hcmp (j + 1) (argBest bt j) v vb _ _ _ hhd' hP hPb ?_))))
    refine wpAny_bind (wpAny_holding (wpAny_truthy_bool ?_))
    refine wpAny_bind (wpAny_letGo (wpAny_pure ?_))
    cases hb : bt (j + 1) (argBest bt j) with
    | true =>
      simp only [if_true]
      refine wpAny_bind ?_
      refine wpAny_updateSeq hS' rfl (wpAny_bind (wpAny_letGo ?_))
      rw [hname]
      refine wpAny_pure ⟨plainId_quiet F.plain_max_loop _, ih (j + 1) _ v _ (by omega) hlt (W.frame _ _ _ hst' fun b hbf o e => ?_) (hH _ _ hhd' fun b o _ hbS e => (Heap.get?_update_other _ _ (Ne.symm hbS)).trans e) (by simp only [argBest, hb, if_true]; exact hP) (Heap.get?_update_self _ hS' rfl)
        fun v' h'' tk'' hP' hk'' => ?_⟩
      · exact (Heap.get?_update_other _ _ (fun h : S = b => hSf (by rw [h]; exact hbf))).trans e
      · exact hR v' h'' tk'' hP' fun b o hbw hbS e => hk'' b o hbw hbS ((Heap.get?_update_other _ _ (Ne.symm hbS)).trans (hk' b o hbw e))
    | false =>
      simp only [Bool.false_eq_true, if_false]
      refine wpAny_bind (wpAny_letGo ?_)
      rw [hname]
      refine wpAny_pure ⟨plainId_quiet F.plain_max_loop _, ih (j + 1) _ vb c (by omega) hlt hst' hhd' (by simp only [argBest, hb, Bool.false_eq_true, if_false]; exact hPb) hS' fun v' h'' tk'' hP' hk'' => ?_⟩
      exact hR v' h'' tk'' hP' fun b o hbw hbS e => hk'' b o hbw hbS (hk' b o hbw e)
theorem max_firstH (W : Walks prog w A.in1 I fp wr n P St) (bt : Nat → Nat → Bool) (hcmp : CmpIn prog w A.in1 .Gt P bt Hd) (S : Addr) (hSf : S ∉ fp) (hH : ∀ h h', Hd h → (∀ b o, b ∉ wr → b ≠ S → h.get? b = some o → h'.get? b = some o) → Hd h') (hn : 0 < n) {s : Shared} {c : Nat} (hst : St 0 s.heap) (hhd : Hd s.heap)
    (hS : s.heap.get? S = some { cls := .type "list", dict := none, data := .seq #[] c, slots := #[] })
    (hR : ∀ v h' tk, P (argBest bt (n - 1)) v → (∀ b o, b ∉ wr → b ≠ S → s.heap.get? b = some o → h'.get? b = some o) → R (.ok (.ret v)) { s with heap := h', toks := tk }) :
    codeAny (model prog w) A (.builtin "max.loop" ⟨[.ref I, .none, .ref S], []⟩) R s := by
  have hSw : S ∉ wr := fun h => hSf (W.sub _ h)
  have hname : (toString "max" ++ toString ".loop" : String) = "max.loop" := by decide
  refine codeAny_builtin F.entry_max_loop ?_
  rw [Around.under_plainId F.plain_max_loop _]
  show wpAny _ A.in1 (seqItems? (.ref S) >>= _) _ _ s
  refine wpAny_bind (wpAny_seqItems hS rfl ?_)
  show wpAny _ A.in1 (tryCatch (pyNext (.ref I)) _ >>= _) _ _ s
  refine wpAny_bind (wpAny_tryCatch (W.item 0 s _ _ hn hst fun v h' tk hP hst' hk' => ?_))
  have hS' := hk' S _ hSw hS
  have hhd' : Hd h' := hH _ _ hhd fun b o hbw _ e => hk' b o hbw e
  show wpAny _ A.in1 (updateSeq S (fun _ => #[v, v]) >>= _) _ _ _
  refine wpAny_bind ?_
  refine wpAny_updateSeq hS' rfl ?_
  rw [hname]
  refine wpAny_pure ⟨plainId_quiet F.plain_max_loop _, max_loopH W bt hcmp S hSf hH _ 0 _ v _ rfl hn (W.frame _ _ _ hst' fun b hbf o e => ?_) (hH _ _ hhd' fun b o _ hbS e => (Heap.get?_update_other _ _ (Ne.symm hbS)).trans e) hP (Heap.get?_update_self _ hS' rfl) fun v' h'' tk'' hP' hk'' => ?_⟩
  · exact (Heap.get?_update_other _ _ (fun h : S = b => hSf (by rw [h]; exact hbf))).trans e
  · exact hR v' h'' tk'' hP' fun b o hbw hbS e => hk'' b o hbw hbS ((Heap.get?_update_other _ _ (Ne.symm hbS)).trans (hk' b o hbw e))
end
section
variable {prog : Program} {w : World} {A : Around} {E : Value → Shared → Prop} {s : Shared}
theorem call_maxL {l : Addr} {items : Array Value} {bt : Nat → Nat → Bool} {need : List Addr} {Q : Value → Shared → Prop} (hh : A.handled = none) (hL : s.heap.IsList l items) (hn : 0 < items.size) (hneed : ∀ b ∈ need, b < s.heap.objs.size)
    (hcmp : ∀ i j vi vj (s' : Shared) (Q : Value → Shared → Prop) (E : Value → Shared → Prop), (∀ b ∈ need, ∀ o, s.heap.get? b = some o → s'.heap.get? b = some o) → items[i]? = some vi → items[j]? = some vj → Q (.bool (bt i j)) s' → wpAny (model prog w) A.in1 (richCompare .Gt vi vj) Q E s')
    (h : ∀ v h' tk, items[argBest bt (items.size - 1)]? = some v → (∀ b o, s.heap.get? b = some o → h'.get? b = some o) → Q v { s with heap := h', toks := tk }) : wpAny (model prog w) A (call (.builtin "max") [.ref l]) Q E s := by
  have hname : (toString "max" ++ toString ".loop" : String) = "max.loop" := by decide
  refine call_function_tree F.kind_max F.plain_max F.entry_max (F.args_max1 _) ?_
  show wpAny _ A.in1 (Builtin.Builtins.bindParams "max" ["key", "default"] 0 ⟨[], []⟩ >>= _) _ _ s
  refine wpAny_bind (wpAny_of_eq (show Builtin.Builtins.bindParams "max" ["key", "default"] 0 ⟨[], []⟩ = pure [none, none] from rfl) ?_)
  refine wpAny_bind (wpAny_pure ?_)
  refine wpAny_bind (wpAny_pyIter_list hL ?_)
  have hlt : l < s.heap.objs.size := by obtain ⟨_, e, _⟩ := id hL; exact Heap.lt_size e
  have hz : (s.heap.push { cls := .type "list_iterator", data := .fields #[.ref l, .int 0 0] }).objs.size = s.heap.objs.size + 1 := Heap.size_push ..
  refine wpAny_bind (wpAny_newObj_type ?_)
  dsimp only
  rw [hname, hz]
  have k1 : ∀ b o, s.heap.get? b = some o → (s.heap.push { cls := .type "list_iterator", data := .fields #[.ref l, .int 0 0] }).get? b = some o := fun b o e => Heap.get?_push_of_some _ e
  have W := Walks.list (prog := prog) (w := w) (A := A.in1) (show A.in1.handled = none from hh) s.heap.objs.size l (Nat.ne_of_lt hlt) items
  have hS : ((s.heap.push { cls := .type "list_iterator", data := .fields #[.ref l, .int 0 0] }).push { cls := .type "list", data := .seq ([] : List Value).toArray }).get? (s.heap.objs.size + 1) = some { cls := .type "list", data := .seq ([] : List Value).toArray } := by
    rw [← hz]; exact Heap.get?_push_size _ rfl
  have hst : Heap.IsListIter ((s.heap.push { cls := .type "list_iterator", data := .fields #[.ref l, .int 0 0] }).push { cls := .type "list", data := .seq ([] : List Value).toArray }) s.heap.objs.size l 0 ∧ Heap.IsList ((s.heap.push { cls := .type "list_iterator", data := .fields #[.ref l, .int 0 0] }).push { cls := .type "list", data := .seq ([] : List Value).toArray }) l items :=
    ⟨⟨_, Heap.get?_push_of_some _ (Heap.get?_push_size _ rfl), rfl, rfl⟩, hL.at fun o e => Heap.get?_push_of_some _ (k1 _ _ e)⟩
  refine wpAny_pure ⟨plainId_quiet F.plain_max_loop _, max_firstH (A := A) (Hd := fun h => ∀ b ∈ need, ∀ o, s.heap.get? b = some o → h.get? b = some o) W bt (fun i j vi vj s' Q E a b c d => hcmp i j vi vj s' Q E a b c d) (s.heap.objs.size + 1) ?_ ?_ hn hst ?_ hS fun v h' tk hP hk => ?_⟩
  · simp only [List.mem_cons, List.not_mem_nil, or_false, not_or]
    exact ⟨Nat.succ_ne_self _, Nat.ne_of_gt (Nat.lt_succ_of_lt hlt)⟩
  · intro h1 h2 hd hk b hb o e
    refine hk b o ?_ ?_ (hd b hb o e)
    · simp only [List.mem_cons, List.not_mem_nil, or_false]
      exact Nat.ne_of_lt (hneed b hb)
    · exact Nat.ne_of_lt (Nat.lt_succ_of_lt (hneed b hb))
  · exact fun b hb o e => Heap.get?_push_of_some _ (k1 _ _ e)
  · refine h v h' tk hP fun b o e => hk b o ?_ ?_ (Heap.get?_push_of_some _ (k1 _ _ e))
    · simp only [List.mem_cons, List.not_mem_nil, or_false]
      exact Nat.ne_of_lt (Heap.lt_size e)
    · exact Nat.ne_of_lt (Nat.lt_succ_of_lt (Heap.lt_size e))
end
end Mine

end
section
open PySem PySem.W PyProof.Rows
set_option Elab.async false
set_option linter.unusedVariables false
set_option maxRecDepth 100000
set_option maxHeartbeats 2000000
namespace Mine
variable {X : Txt} {k : Nat} {σ : Sto} {Q : PV → Sto → Prop}

theorem TOp.minLL (T : X.Ok) {a b : List Str} (h : Q (.lst (pss (if lexLt b a then b else a))) σ) : TOp X k (fun vs => PySem.call (.builtin "min") vs) [.lst [.lst (pss a), .lst (pss b)]] σ Q := .of1 fun A W s v aa R r => by
  obtain ⟨l, vs, n, rfl, hW, hz, v1, _, rfl, r1, v2, _, rfl, r2, rfl⟩ := r
  obtain ⟨a1, us1, n1, rfl, hW1, hz1, q1⟩ := _root_.id r1
  obtain ⟨a2, us2, n2, rfl, hW2, hz2, q2⟩ := _root_.id r2
  obtain ⟨l1, rfl, e1⟩ := pss_rel q1
  obtain ⟨l2, rfl, e2⟩ := pss_rel q2
  have hL : s.heap.IsList l #[.ref a1, .ref a2] := ⟨_, R.fro hW, rfl, n, rfl⟩
  have g1 := R.fro hW1
  have g2 := R.fro hW2
  have hu : A.in1.units < cLine := by have := aa.units; simp; unfold cLine; lia
  refine call_minL (items := #[.ref a1, .ref a2]) (bt := fun i j => if i = j then lexLt (if i = 0 then a else b) (if i = 0 then a else b) else if i = 0 then lexLt a b else lexLt b a) (need := [a1, a2]) aa.handled hL (by simp) ?_ ?_ ?_
  · intro c hc
    simp only [List.mem_cons, List.not_mem_nil, or_false] at hc
    rcases hc with rfl | rfl
    · exact Heap.lt_size g1
    · exact Heap.lt_size g2
  · intro i j vi vj s' Q' E' hk hi hj hq
    have k1 := hk a1 (by simp) _ g1
    have k2 := hk a2 (by simp) _ g2
    have two : ∀ (i : Nat) (v : Value), (#[Value.ref a1, Value.ref a2] : Array Value)[i]? = some v → (i = 0 ∧ v = .ref a1) ∨ (i = 1 ∧ v = .ref a2) := fun i v hv => by
      match i, hv with
      | 0, hv => left; exact ⟨rfl, by simpa using hv.symm⟩
      | 1, hv => right; exact ⟨rfl, by simpa using hv.symm⟩
      | i + 2, hv => simp at hv
    rcases two i vi hi with ⟨rfl, rfl⟩ | ⟨rfl, rfl⟩ <;> rcases two j vj hj with ⟨rfl, rfl⟩ | ⟨rfl, rfl⟩
    · exact rc_lt hu k1 k1 (by simp only [e1]; simpa using hq)
    · exact rc_lt hu k1 k2 (by simp only [e1, e2]; simpa using hq)
    · exact rc_lt hu k2 k1 (by simp only [e1, e2]; simpa using hq)
    · exact rc_lt hu k2 k2 (by simp only [e2]; simpa using hq)
  · intro v h' tk hv keep
    have hb : argBest (fun i j => if i = j then lexLt (if i = 0 then a else b) (if i = 0 then a else b) else if i = 0 then lexLt a b else lexLt b a) ((#[Value.ref a1, Value.ref a2] : Array Value).size - 1) = if lexLt b a then 1 else 0 := by
      show argBest _ 1 = _
      simp [argBest]
    rw [hb] at hv
    refine ⟨W, _, σ, Le.refl W, R.ext T keep tk, ?_, h⟩
    cases hc : (lexLt b a) with
    | true => rw [hc] at hv; simp at hv; subst hv; rw [if_pos rfl]; exact r2
    | false => rw [hc] at hv; simp at hv; subst hv; rw [if_neg Bool.false_ne_true]; exact r1

theorem TOp.maxLL (T : X.Ok) {a b : List Str} (h : Q (.lst (pss (if lexLt a b then b else a))) σ) : TOp X k (fun vs => PySem.call (.builtin "max") vs) [.lst [.lst (pss a), .lst (pss b)]] σ Q := .of1 fun A W s v aa R r => by
  obtain ⟨l, vs, n, rfl, hW, hz, v1, _, rfl, r1, v2, _, rfl, r2, rfl⟩ := r
  obtain ⟨a1, us1, n1, rfl, hW1, hz1, q1⟩ := _root_.id r1
  obtain ⟨a2, us2, n2, rfl, hW2, hz2, q2⟩ := _root_.id r2
  obtain ⟨l1, rfl, e1⟩ := pss_rel q1
  obtain ⟨l2, rfl, e2⟩ := pss_rel q2
  have hL : s.heap.IsList l #[.ref a1, .ref a2] := ⟨_, R.fro hW, rfl, n, rfl⟩
  have g1 := R.fro hW1
  have g2 := R.fro hW2
  have hu : A.in1.units < cLine := by have := aa.units; simp; unfold cLine; lia
  refine call_maxL (items := #[.ref a1, .ref a2]) (bt := fun i j => if i = j then lexLt (if i = 0 then a else b) (if i = 0 then a else b) else if i = 0 then lexLt b a else lexLt a b) (need := [a1, a2]) aa.handled hL (by simp) ?_ ?_ ?_
  · intro c hc
    simp only [List.mem_cons, List.not_mem_nil, or_false] at hc
    rcases hc with rfl | rfl
    · exact Heap.lt_size g1
    · exact Heap.lt_size g2
  · intro i j vi vj s' Q' E' hk hi hj hq
    have k1 := hk a1 (by simp) _ g1
    have k2 := hk a2 (by simp) _ g2
    have two : ∀ (i : Nat) (v : Value), (#[Value.ref a1, Value.ref a2] : Array Value)[i]? = some v → (i = 0 ∧ v = .ref a1) ∨ (i = 1 ∧ v = .ref a2) := fun i v hv => by
      match i, hv with
      | 0, hv => left; exact ⟨rfl, by simpa using hv.symm⟩
      | 1, hv => right; exact ⟨rfl, by simpa using hv.symm⟩
      | i + 2, hv => simp at hv
    rcases two i vi hi with ⟨rfl, rfl⟩ | ⟨rfl, rfl⟩ <;> rcases two j vj hj with ⟨rfl, rfl⟩ | ⟨rfl, rfl⟩
    · exact rc_gt hu k1 k1 (by simp only [e1]; simpa using hq)
    · exact rc_gt hu k1 k2 (by simp only [e1, e2]; simpa using hq)
    · exact rc_gt hu k2 k1 (by simp only [e1, e2]; simpa using hq)
    · exact rc_gt hu k2 k2 (by simp only [e2]; simpa using hq)
  · intro v h' tk hv keep
    have hb : argBest (fun i j => if i = j then lexLt (if i = 0 then a else b) (if i = 0 then a else b) else if i = 0 then lexLt b a else lexLt a b) ((#[Value.ref a1, Value.ref a2] : Array Value).size - 1) = if lexLt a b then 1 else 0 := by
      show argBest _ 1 = _
      simp [argBest]
    rw [hb] at hv
    refine ⟨W, _, σ, Le.refl W, R.ext T keep tk, ?_, h⟩
    cases hc : (lexLt a b) with
    | true => rw [hc] at hv; simp at hv; subst hv; rw [if_pos rfl]; exact r2
    | false => rw [hc] at hv; simp at hv; subst hv; rw [if_neg Bool.false_ne_true]; exact r1
end Mine

end
section
open PySem PySem.W PyProof.Rows
set_option Elab.async false
set_option linter.unusedVariables false
set_option maxRecDepth 100000
set_option maxHeartbeats 2000000
namespace Mine
open AutoSeq1 (wpAny_loadPart')
/-! map -/
theorem slot_map_init : PySem.Slot "map" "__init__" "object.__init__" := .of (owner := "object") (n := "__init__") (by rw [typeLookup_type, builtinLookup_eq_fast]; kernel_rfl) (by decide +kernel) (by decide +kernel) (by decide +kernel) (by decide +kernel) (by rw [isSubtype_type]; kernel_rfl)
theorem slot_map_next : PySem.Slot "map" "__next__" "map.__next__" := .of (owner := "map") (n := "__next__") (by rw [typeLookup_type, builtinLookup_eq_fast]; kernel_rfl) (by decide +kernel) (by decide +kernel) (by decide +kernel) (by decide +kernel) (by rw [isSubtype_type]; kernel_rfl)
theorem slot_map_iter : PySem.Slot "map" "__iter__" "map.__iter__" := .of (owner := "map") (n := "__iter__") (by rw [typeLookup_type, builtinLookup_eq_fast]; kernel_rfl) (by decide +kernel) (by decide +kernel) (by decide +kernel) (by decide +kernel) (by rw [isSubtype_type]; kernel_rfl)
theorem entry_map_next : entryFor table "map.__next__" = some Builtin.«map.__next__» := entryFor_of_tree (by kernel_rfl)
theorem entry_map_new : entryFor table "map.__new__" = some Builtin.«map.__new__» := entryFor_of_tree (by kernel_rfl)
theorem entry_map_iter : entryFor table "map.__iter__" = some Builtin.«dict_keyiterator.__iter__» :=
  entryFor_alias (id' := "dict_keyiterator.__iter__") (by kernel_rfl) (by first | rfl | decide +kernel | (unfold String.splitOn; simp +decide [String.splitOnAux])) (by decide +kernel) (by kernel_rfl)
theorem args_map_next (a : Value) : argsOk "map.__next__" ⟨[a], []⟩ := by unfold argsOk; kernel_rfl
theorem args_map_iter (a : Value) : argsOk "map.__iter__" ⟨[a], []⟩ := by unfold argsOk; kernel_rfl
theorem mro_map : mroOf (.type "map") = pure [.type "map", .type "object"] := by rw [mroOf_type]; kernel_rfl
theorem lookup_map_new : typeLookup (.type "map") "__new__" = pure (some (.builtin "map.__new__")) := by rw [typeLookup_type, builtinLookup_eq_fast]; kernel_rfl
theorem called_map : TypeCalled "map" "map.__new__" "object.__init__" :=
  ⟨by decide +kernel, by decide +kernel, ⟨_, _, mro_map⟩, madeBy_type mro_map lookup_map_new (by decide +kernel), by decide +kernel, by rw [isSubtype_type]; kernel_rfl, slot_map_init⟩
theorem typeCall_map_2 (a b : Value) : checkTypeCall "map" ⟨[a, b], []⟩ = pure () := by kernel_rfl
theorem newCall_map_2 (a b : Value) : checkBuiltinCall "map.__new__" ⟨[.type "map", a, b], []⟩ = pure () := by kernel_rfl
theorem args_oinit_3 (o a b : Value) : argsOk "object.__init__" ⟨[o, a, b], []⟩ := by unfold argsOk; kernel_rfl
theorem map_no_len : typeLookup (.type "map") "__len__" = pure none := by rw [typeLookup_type, builtinLookup_eq_fast]; kernel_rfl
theorem map_no_hint : typeLookup (.type "map") "__length_hint__" = pure none := by rw [typeLookup_type, builtinLookup_eq_fast]; kernel_rfl
theorem sub_map : isSubtype (.type "map") (.type "map") = pure true := by rw [isSubtype_type]; kernel_rfl
theorem meets_map_new (f : Value) (l : Addr) (items : Array Value) (n : Nat) :
    Meets (Builtin.«map.__new__» ⟨[.type "map", f, .ref l], []⟩) (fun _ R s => s.heap.get? l = some { cls := .type "list", data := .seq items n } ∧
      R (.ok (.ret (.ref ((s.heap.push { cls := .type "list_iterator", data := .fields #[.ref l, .int 0 0] }).push { cls := .type "tuple", data := .seq #[.ref s.heap.objs.size] }).objs.size)))
        { s with heap := ((s.heap.push { cls := .type "list_iterator", data := .fields #[.ref l, .int 0 0] }).push { cls := .type "tuple", data := .seq #[.ref s.heap.objs.size] }).push { cls := .type "map", data := .fields #[.ref (s.heap.push { cls := .type "list_iterator", data := .fields #[.ref l, .int 0 0] }).objs.size, f] } }) :=
  .of_wp fun prog w A R s h => by
    obtain ⟨hp, g, d, tk, os⟩ := s; obtain ⟨hl, h⟩ := h
    have hsub := sub_map
    have hL : Heap.IsList (Shared.heap ⟨hp, g, d, tk, os⟩) l items := ⟨_, hl, rfl, n, rfl⟩
    wp_walk using wpAny_loadPart' hl, wpAny_pyIter_list hL
    exact ⟨_, rfl, h⟩
section
variable {prog : Program} {w : World} {A : Around} {E : Value → Shared → Prop} {s : Shared}
theorem call_map {f : Value} {l : Addr} {items : Array Value} {n : Nat} {Q : Value → Shared → Prop} (hl : s.heap.get? l = some { cls := .type "list", data := .seq items n })
    (h : ∀ h', h'.get? (s.heap.objs.size + 2) = some { cls := .type "map", data := .fields #[.ref (s.heap.objs.size + 1), f] } → h'.get? (s.heap.objs.size + 1) = some { cls := .type "tuple", data := .seq #[.ref s.heap.objs.size] } →
      h'.get? s.heap.objs.size = some { cls := .type "list_iterator", data := .fields #[.ref l, .int 0 0] } → (∀ b o, s.heap.get? b = some o → h'.get? b = some o) → Q (.ref (s.heap.objs.size + 2)) { s with heap := h' }) :
    wpAny (model prog w) A (call (.type "map") [f, .ref l]) Q E s := by
  refine callType_new called_map (by decide) (typeCall_map_2 _ _) (newCall_map_2 _ _) (fun obj => args_oinit_3 obj _ _) entry_map_new (meets_map_new f l items n) ⟨hl, ?_⟩
  have z1 : (s.heap.push { cls := .type "list_iterator", data := .fields #[.ref l, .int 0 0] }).objs.size = s.heap.objs.size + 1 := Heap.size_push ..
  have z2 : ((s.heap.push { cls := .type "list_iterator", data := .fields #[.ref l, .int 0 0] }).push { cls := .type "tuple", data := .seq #[.ref s.heap.objs.size] }).objs.size = s.heap.objs.size + 2 := by rw [Heap.size_push, z1]
  show _ ∧ _
  rw [z2, z1]
  have e3 := Heap.get?_push_size ((s.heap.push { cls := .type "list_iterator", data := .fields #[.ref l, .int 0 0] }).push { cls := .type "tuple", data := .seq #[.ref s.heap.objs.size] }) (o := { cls := .type "map", data := .fields #[.ref (s.heap.objs.size + 1), f] }) rfl
  rw [z2] at e3
  have e2 := Heap.get?_push_size (s.heap.push { cls := .type "list_iterator", data := .fields #[.ref l, .int 0 0] }) (o := { cls := .type "tuple", data := .seq #[.ref s.heap.objs.size] }) rfl
  rw [z1] at e2
  exact ⟨⟨_, e3, rfl⟩, h _ e3 (Heap.get?_push_of_some _ e2) (Heap.get?_push_of_some _ (Heap.get?_push_of_some _ (Heap.get?_push_size _ rfl))) fun b o x => Heap.get?_push_of_some _ (Heap.get?_push_of_some _ (Heap.get?_push_of_some _ x))⟩
end

variable {X : Txt}
noncomputable abbrev mapObj (t : Addr) (f : Value) : Obj := { cls := .type "map", data := .fields #[.ref t, f] }
inductive MSrc (W₀ W : Map) (M I : Addr) (f : Value) (i : Nat) (xs : List PV) : Prop
  | mk (nM : W₀ M = .no) (nI : W₀ I = .no) (ne : M ≠ I) (t l : Addr) (oI : Obj) (vs : List Value) (n : Nat) (h1 : W M = .hid (mapObj t f)) (h2 : W t = .fro (tupObj [.ref I] 0)) (h3 : W I = .hid oI) (h4 : oI.cls = .type "list_iterator") (h5 : oI.data = .fields #[.ref l, .int i 0])
    (h6 : W l = .fro (lstObj vs n)) (h7 : VRels W xs (vs.drop i))
theorem MSrc.le {W₀ W W' : Map} {M I : Addr} {f : Value} {i : Nat} {xs : List PV} (S : MSrc W₀ W M I f i xs) (l : Le W W') : MSrc W₀ W' M I f i xs := by
  obtain ⟨a, b, c, t, l', oI, vs, n, h1, h2, h3, h4, h5, h6, h7⟩ := S
  exact ⟨a, b, c, t, l', oI, vs, n, l.hid _ _ h1, l.fro _ _ h2, l.hid _ _ h3, h4, h5, l.fro _ _ h6, h7.le l⟩
/-- the hidden ones but one are left -/
noncomputable def HidBut (I : Addr) (W W' : Map) : Prop := ∀ b o, b ≠ I → W b = .hid o → W' b = .hid o
section
variable {k : Nat} {A : Around} {W₀ W : Map} {σ : Sto} {s : Shared} {env : Env} {ρ : Loc} {M I : Addr} {f : Value} {i : Nat} {x : PV} {xs : List PV}
inductive MNPost (X : Txt) (W₀ W : Map) (env : Env) (ρ : Loc) (σ : Sto) (M I : Addr) (f : Value) (i : Nat) (x : PV) (xs : List PV) (r : Option Value) (s' : Shared) : Prop
  | mk (v : Value) (W' : Map) (e : r = some v) (l : Le W₀ W') (R : HRel X W' σ s') (F : FOk W' env ρ s'.heap) (r' : VRel W' x v) (S : MSrc W₀ W' M I f (i + 1) xs) (h : HidBut I W W') (fr : ∀ b o, W b = .fro o → W' b = .fro o)
inductive MDPost (X : Txt) (W₀ W : Map) (env : Env) (ρ : Loc) (σ : Sto) (I : Addr) (r : Option Value) (s' : Shared) : Prop
  | mk (W' : Map) (e : r = none) (l : Le W₀ W') (R : HRel X W' σ s') (F : FOk W' env ρ s'.heap) (h : HidBut I W W') (fr : ∀ b o, W b = .fro o → W' b = .fro o)
theorem MSrc.next (T : X.Ok) (a : AOk (k + 1) A) (R : HRel X W σ s) (F : FOk W env ρ s.heap) (l : Le W₀ W) (S : MSrc W₀ W M I f i (x :: xs)) (hf : TOp X k (fun vs => PySem.call f vs) [x] σ fun p σ' => p = x ∧ σ' = σ) :
    wpAny X.M A (pyNext (.ref M)) (MNPost X W₀ W env ρ σ M I f i x xs) (fun _ _ => False) s := by
  obtain ⟨nM, nI, ne, t, l', oI, vs, n, h1, h2, h3, h4, h5, h6, h7⟩ := S
  obtain ⟨v, r, g1, g2, g3⟩ := h7
  obtain ⟨d1, d2⟩ := drop_get g1
  have hM := R.hid h1
  have hT : s.TypeIs (.ref M) "map" := ⟨_, hM, rfl⟩
  unfold pyNext
  refine wpAny_bind (wpAny_attempt (wpAny_callSpecial?_slot (name := Str.ofString "__next__") hT slot_map_next (wpAny_call_entry slot_map_next hT entry_map_next ?_ (args_map_next _))))
  show wpAny _ _ (field (.ref M) 0 >>= _) _ _ s
  refine wpAny_bind (wpAny_field hM rfl (x := .ref t) rfl ?_)
  refine wpAny_bind (wpAny_seqItems (R.fro h2) rfl ?_)
  dsimp only
  simp only [List.forIn_toArray, List.forIn_cons, List.forIn_nil]
  refine wpAny_bind (wpAny_bind (wpAny_bind (wpAny_holding ?_)))
  refine wpAny_nextOf_list_item ⟨_, R.hid h3, h4, h5⟩ ⟨_, R.fro h6, rfl, _, rfl⟩ (x := v) (by rw [List.getElem?_toArray]; exact d1) fun h' hit' hs' => ?_
  obtain ⟨o', ho', hc', hd'⟩ := hit'
  obtain ⟨R', F'⟩ := moved T R F h3 (by rw [h5]; intro v h; cases h) hs' ho' s.toks
  have lf : ∀ b o, W b = .fro o → W.set I (.hid o') b = .fro o := fun b o e => by rw [Map.set_ne (by first | exact nq e (h3) rfl | exact Ne.symm (nq e (h3) rfl) | (rintro rfl; rw [h3] at e; cases e))]; exact e
  refine wpAny_pure (wpAny_pure ?_)
  have hM' : h'.get? M = some (mapObj t f) := (hs'.2 M ne).trans hM
  show wpAny _ _ (field (.ref M) 1 >>= _) _ _ { s with heap := h' }
  refine wpAny_bind (wpAny_field (s := { s with heap := h' }) hM' rfl (x := f) rfl ?_)
  refine wpAny_bind (wpAny_holding ?_)
  refine wpAny_mono (lift T hf a.in1 R' F' ⟨v, [], rfl, VRel.mono lf _ _ g2, rfl⟩) (fun u s2 h2' => ?_) fun _ _ e => e.elim
  obtain ⟨W2, p, σ2, l2, R2, F2, r2, rfl, rfl⟩ := h2'
  refine wpAny_bind (wpAny_letGo (wpAny_pure ⟨_, rfl, wpAny_pure ?_⟩))
  refine ⟨u, W2, rfl, (l.setHid nI).trans l2, R2, F2, r2, ⟨nM, nI, ne, t, l', o', vs, n, ?_, l2.fro _ _ (lf _ _ h2), l2.hid _ _ (Map.set_self ..), hc', hd', l2.fro _ _ (lf _ _ h6), ?_⟩, fun b o hb e => l2.hid _ _ (by rw [Map.set_ne hb]; exact e), fun b o e => l2.fro _ _ (lf _ _ e)⟩
  · exact l2.hid _ _ (by rw [Map.set_ne ne]; exact h1)
  · rw [d2]; exact VRels.le (VRels.mono lf _ _ g3) l2
theorem MSrc.done (T : X.Ok) (a : AOk k A) (R : HRel X W σ s) (F : FOk W env ρ s.heap) (l : Le W₀ W) (S : MSrc W₀ W M I f i []) :
    wpAny X.M A (pyNext (.ref M)) (MDPost X W₀ W env ρ σ I) (fun _ _ => False) s := by
  obtain ⟨nM, nI, ne, t, l', oI, vs, n, h1, h2, h3, h4, h5, h6, h7⟩ := S
  have hM := R.hid h1
  have hT : s.TypeIs (.ref M) "map" := ⟨_, hM, rfl⟩
  unfold pyNext
  refine wpAny_bind (wpAny_attempt (wpAny_callSpecial?_slot (name := Str.ofString "__next__") hT slot_map_next (wpAny_call_entry slot_map_next hT entry_map_next ?_ (args_map_next _))))
  show wpAny _ _ (field (.ref M) 0 >>= _) _ _ s
  refine wpAny_bind (wpAny_field hM rfl (x := .ref t) rfl ?_)
  refine wpAny_bind (wpAny_seqItems (R.fro h2) rfl ?_)
  dsimp only
  simp only [List.forIn_toArray, List.forIn_cons, List.forIn_nil]
  refine wpAny_bind (wpAny_bind (wpAny_bind (wpAny_holding ?_)))
  refine wpAny_nextOf_list_end a.handled ⟨_, R.hid h3, h4, h5⟩ ⟨_, R.fro h6, rfl, _, rfl⟩ (by rw [List.getElem?_toArray]; exact drop_end h7) fun h' x he' hx' => ?_
  obtain ⟨o, ho, hc⟩ := hx'
  refine wpAny_bind (wpAny_isInstance (T := "StopIteration") (b := true) ⟨o, ho, hc⟩ isSubtype_stop ?_)
  obtain ⟨R', F'⟩ := gone T R F h3 (by rw [h5]; intro v h; cases h) he' s.toks
  exact wpAny_pure ⟨_, rfl, l.setHid nI, R', F', fun b o hb e => by rw [Map.set_ne hb]; exact e, fun b o e => by rw [Map.set_ne (by first | exact nq e (h3) rfl | exact Ne.symm (nq e (h3) rfl) | (rintro rfl; rw [h3] at e; cases e))]; exact e⟩
end
end Mine

end
section
open PySem PySem.W PyProof.Rows
set_option Elab.async false
set_option linter.unusedVariables false
set_option maxRecDepth 100000
set_option maxHeartbeats 2000000
namespace Mine
variable {X : Txt}
theorem mapSeq_push (us : List Value) (n : Nat) (v : Value) : ∃ n', Obj.mapSeq (·.push v) (lstObj us n) = lstObj (us ++ [v]) n' := by
  obtain ⟨n', e⟩ := mapSeq_at (·.push v) (.type "list") none us.toArray n
  exact ⟨n', by rw [e]; simp⟩
theorem mapSeq_pop (us : List Value) (n : Nat) (v : Value) : ∃ n', Obj.mapSeq (·.pop) (lstObj (us ++ [v]) n) = lstObj us n' := by
  obtain ⟨n', e⟩ := mapSeq_at (·.pop) (.type "list") none (us ++ [v]).toArray n
  exact ⟨n', by rw [e]; simp⟩
section
variable {k : Nat} {σ : Sto} {env : Env} {ρ : Loc} {M I D : Addr} {f : Value}
theorem mapLoop (T : X.Ok) {A : Around} {W₀ : Map} {res : Value} {RR : Result → Shared → Prop} (a : AOk (k + 2) A) (hDI : D ≠ I) (nD : W₀ D = .no) : ∀ (xs : List PV) (i : Nat) (W : Map) (s : Shared) (acc : List PV) (us : List Value) (c : Nat),
    (∀ x ∈ xs, TOp X k (fun vs => PySem.call f vs) [x] σ fun p σ' => p = x ∧ σ' = σ) → HRel X W σ s → FOk W env ρ s.heap → Le W₀ W → MSrc W₀ W M I f i xs → W D = .hid (lstObj us c) → VRels W acc us → acc.length + xs.length ≤ sizeLine →
    (∀ W' s' us' c', Le W₀ W' → HRel X W' σ s' → FOk W' env ρ s'.heap → W' D = .hid (lstObj us' c') → VRels W' (acc ++ xs) us' → RR (.ok (.ret res)) s') →
    codeAny X.M A (.builtin "list.extend.loop" ⟨[.ref D, .ref M, res], []⟩) RR s := by
  intro xs
  induction xs with
  | nil =>
    intro i W s acc us c hf R F l S hD q hz hR
    refine codeAny_builtin PySem.F.entry_extend_loop ?_
    rw [Around.under_plainId PySem.F.plain_extend_loop _]
    show wpAny _ A.in1 (pyNext (.ref M) >>= _) _ _ s
    refine wpAny_bind (wpAny_mono (S.done T (a.in1) R F l) (fun r s' h1 => ?_) fun _ _ e => e.elim)
    obtain ⟨W', rfl, l', R', F', hid, fro⟩ := h1
    refine wpAny_pure (hR W' s' us c l' R' F' (hid D _ hDI hD) ?_)
    rw [List.append_nil]; exact VRels.mono fro _ _ q
  | cons x xs ih =>
    intro i W s acc us c hf R F l S hD q hz hR
    refine codeAny_builtin PySem.F.entry_extend_loop ?_
    rw [Around.under_plainId PySem.F.plain_extend_loop _]
    show wpAny _ A.in1 (pyNext (.ref M) >>= _) _ _ s
    refine wpAny_bind (wpAny_mono (S.next T (a.in1) R F l (hf x List.mem_cons_self)) (fun r s' h1 => ?_) fun _ _ e => e.elim)
    obtain ⟨v, W1, rfl, l1, R1, F1, r1, S1, hid, fro⟩ := h1
    have hD1 := hid D _ hDI hD
    have q1 : VRels W1 acc us := VRels.mono fro _ _ q
    show wpAny _ A.in1 (updateSeq D (·.push v) >>= _) _ _ _
    refine wpAny_bind ?_
    have hget := R1.hid hD1
    obtain ⟨c', ec⟩ := mapSeq_push us c v
    have hsz : us.length ≤ sizeLine := by have := q.length; simp at hz; lia
    refine wpAny_updateSeq hget rfl (wpAny_pure ⟨plainId_quiet PySem.F.plain_extend_loop _, ?_⟩) (by rw [List.size_toArray]; exact hsz) (by show (us.toArray.push v).size ≤ sizeLine + 1; rw [Array.size_push, List.size_toArray]; lia)
    have hup := Heap.get?_update_self (Obj.mapSeq (·.push v)) hget rfl
    rw [ec] at hup
    obtain ⟨R2, F2⟩ := moved T R1 F1 hD1 (by intro v h; cases h) (Heap.SameBut.update ..) hup s'.toks
    have lf : ∀ b o, W1 b = .fro o → W1.set D (.hid (lstObj (us ++ [v]) c')) b = .fro o := fun b o e => by rw [Map.set_ne (by first | exact nq e (hD1) rfl | exact Ne.symm (nq e (hD1) rfl) | (rintro rfl; rw [hD1] at e; cases e))]; exact e
    have l2 : Le W₀ (W1.set D (.hid (lstObj (us ++ [v]) c'))) := l1.setHid nD
    have DM : D ≠ M := by
      obtain ⟨_, _, _, t, l', oI, vs, n, h1, _⟩ := S1
      rintro rfl
      rw [hD1] at h1
      have e := Obj.mk.inj (Slot.hid.inj h1)
      exact absurd (Value.type.inj e.1) (by decide)
    refine ih (i + 1) (W1.set D (.hid (lstObj (us ++ [v]) c'))) _ (acc ++ [x]) (us ++ [v]) c' (fun y hy => hf y (List.mem_cons_of_mem _ hy)) R2 F2 l2 ?_ (Map.set_self ..) (VRels.append (VRels.mono lf _ _ q1) ⟨v, [], rfl, VRel.mono lf _ _ r1, rfl⟩) (by simp at hz ⊢; lia) fun W' s' us' c'' l' R' F' hD' q' => hR W' s' us' c'' l' R' F' hD' (by simpa using q')
    obtain ⟨nM, nI, ne, t, l', oI, vs, n, h1, h2, h3, h4, h5, h6, h7⟩ := S1
    exact ⟨nM, nI, ne, t, l', oI, vs, n, by rw [Map.set_ne (Ne.symm DM)]; exact h1, lf _ _ h2, by rw [Map.set_ne (Ne.symm hDI)]; exact h3, h4, h5, lf _ _ h6, VRels.mono lf _ _ h7⟩
end
end Mine

end
section
open PySem PySem.W PyProof.Rows
set_option Elab.async false
set_option linter.unusedVariables false
set_option maxRecDepth 100000
set_option maxHeartbeats 2000000
namespace Mine
variable {X : Txt}
section
variable {k : Nat} {σ : Sto} {env : Env} {ρ : Loc} {M I : Addr} {f : Value}
theorem iter_map {A : Around} {E : Value → Shared → Prop} {s : Shared} {o : Obj} {Q : Value → Shared → Prop} (ho : s.heap.get? M = some o) (hc : o.cls = .type "map") (h : Q (.ref M) s) : wpAny X.M A (pyIter (.ref M)) Q E s := by
  have hT : s.TypeIs (.ref M) "map" := ⟨_, ho, hc⟩
  refine wpAny_pyIter_slot hT slot_map_iter (wpAny_call_entry slot_map_iter hT entry_map_iter ?_ (args_map_iter _))
  show wpAny _ _ (ret (.ref M)) _ _ s
  exact wpAny_pure ⟨_, rfl, "map", _, hT, slot_map_next.lookup, h⟩
theorem collectMap (T : X.Ok) {A : Around} {W₀ W : Map} {s : Shared} {xs : List PV} {i : Nat} {Q : List Value → Shared → Prop} (a : AOk (k + 2) A) (hz : xs.length ≤ sizeLine)
    (hf : ∀ x ∈ xs, TOp X k (fun vs => PySem.call f vs) [x] σ fun p σ' => p = x ∧ σ' = σ) (R : HRel X W σ s) (F : FOk W env ρ s.heap) (l : Le W₀ W) (S : MSrc W₀ W M I f i xs)
    (hQ : ∀ W' s' us, Le W₀ W' → HRel X W' σ s' → FOk W' env ρ s'.heap → VRels W' xs us → Q us s') : wpAny X.M A (collect (.ref M)) Q (fun _ _ => False) s := by
  have hsl := sl_big
  obtain ⟨nM, nI, ne, t, l', oI, vs, n, h1, h2, h3, h4, h5, h6, h7⟩ := S
  have hM := R.hid h1
  have hnew := R.new
  have DM : s.heap.objs.size ≠ M := by intro e; rw [← e, hnew] at h1; cases h1
  have DI : s.heap.objs.size ≠ I := by intro e; rw [← e, hnew] at h3; cases h3
  unfold collect
  refine wpAny_bind (wpAny_runValue (codeAny_builtin PySem.F.entry_proto_collect ?_))
  rw [Around.under_plainId PySem.F.plain_proto_collect _]
  show wpAny _ A.in1 (newList [] >>= fun l => again (.builtin "list.__iadd__" ⟨[l, .ref M], []⟩)) _ _ s
  refine wpAny_bind (wpAny_newObj_type ?_)
  refine wpAny_pure ⟨plainId_quiet PySem.F.plain_list_iadd _, codeAny_builtin PySem.F.entry_list_iadd ?_⟩
  rw [Around.under_plainId PySem.F.plain_list_iadd _]
  show wpAny _ A.in1 (Builtin.List.listExtendWith (.ref s.heap.objs.size) (.ref M) (.ref s.heap.objs.size)) _ _ _
  have hM1 : (s.heap.push { cls := .type "list", data := .seq ([] : List Value).toArray }).get? M = some (mapObj t f) := Heap.get?_push_of_some _ hM
  have tyM : Shared.TypeIs { s with heap := s.heap.push { cls := .type "list", data := .seq ([] : List Value).toArray } } (.ref M) "map" := ⟨_, hM1, rfl⟩
  unfold Builtin.List.listExtendWith
  refine wpAny_bind (wpAny_typeOf tyM ?_)
  have e1 : Builtin.List.listSameRef (.ref s.heap.objs.size) (.ref M) = false := by simp [Builtin.List.listSameRef, DM]
  have e2 : (Value.type "map" == Value.type "list") = false := by decide
  have e3 : (Value.type "map" == Value.type "tuple") = false := by decide
  simp only [e1, e2, e3, Bool.or_false, Bool.false_eq_true, if_false]
  refine wpAny_bind (iter_map hM1 rfl ?_)
  refine wpAny_bind (wpAny_holding ?_)
  unfold Builtin.List.listLengthHint
  refine wpAny_bind (wpAny_specialOf tyM map_no_len ?_)
  show wpAny _ A.in1 (specialOf (Value.ref M) (Str.ofString "__length_hint__") >>= _) _ _ _
  refine wpAny_bind (wpAny_specialOf tyM map_no_hint ?_)
  refine wpAny_pure ?_
  show wpAny _ A.in1 (rule "list.extend.makes-room" >>= fun _ => Builtin.List.listTouch (.ref s.heap.objs.size) >>= fun _ =>
    again (.builtin "list.extend.loop" ⟨[.ref s.heap.objs.size, .ref M, .ref s.heap.objs.size], []⟩)) _ _ _
  refine wpAny_bind (wpAny_rule ?_)
  have hS₁ : (s.heap.push { cls := .type "list", data := .seq ([] : List Value).toArray }).get? s.heap.objs.size = some (lstObj [] 0) := Heap.get?_push_size _ rfl
  refine wpAny_bind ?_
  show wpAny _ A.in1 (updateSeq s.heap.objs.size (·.push .none) >>= fun _ => updateSeq s.heap.objs.size (·.pop)) _ _ _
  refine wpAny_bind (wpAny_updateSeq hS₁ rfl ?_)
  have hS₂ := Heap.get?_update_self (Obj.mapSeq (·.push Value.none)) hS₁ rfl
  obtain ⟨c2, ec2⟩ := mapSeq_push [] 0 .none
  rw [ec2] at hS₂
  refine wpAny_updateSeq hS₂ rfl ?_
  have hS₃ := Heap.get?_update_self (Obj.mapSeq (·.pop)) hS₂ rfl
  obtain ⟨c3, ec3⟩ := mapSeq_pop [] c2 .none
  rw [ec3] at hS₃
  have R1 := R.pushHid T (o := lstObj [] 0) rfl s.toks
  have F1 := FOk.push T R F (lstObj [] 0) (.hid (lstObj [] 0))
  have hD1 : (W.set s.heap.objs.size (.hid (lstObj [] 0))) s.heap.objs.size = .hid (lstObj [] 0) := Map.set_self ..
  obtain ⟨R2, F2⟩ := moved T R1 F1 hD1 (by intro v h; cases h) (Heap.SameBut.update ..) hS₂ s.toks
  have hD2 : ((W.set s.heap.objs.size (.hid (lstObj [] 0))).set s.heap.objs.size (.hid (lstObj [Value.none] c2))) s.heap.objs.size = .hid (lstObj [Value.none] c2) := Map.set_self ..
  obtain ⟨R3, F3⟩ := moved T R2 F2 hD2 (by intro v h; cases h) (Heap.SameBut.update ..) hS₃ s.toks
  have nD : W₀ s.heap.objs.size = .no := l.no _ hnew
  have ov : ((W.set s.heap.objs.size (.hid (lstObj [] 0))).set s.heap.objs.size (.hid (lstObj ([] ++ [Value.none]) c2))).set s.heap.objs.size (.hid (lstObj [] c3)) = W.set s.heap.objs.size (.hid (lstObj [] c3)) := by
    funext b
    by_cases hb : b = s.heap.objs.size
    · subst hb; rw [Map.set_self, Map.set_self]
    · rw [Map.set_ne hb, Map.set_ne hb, Map.set_ne hb, Map.set_ne hb]
  rw [ov] at R3 F3
  have l3 := R.le_set (.hid (lstObj [] c3))
  have S3 : MSrc W₀ (W.set s.heap.objs.size (.hid (lstObj [] c3))) M I f i xs := MSrc.le ⟨nM, nI, ne, t, l', oI, vs, n, h1, h2, h3, h4, h5, h6, h7⟩ l3
  refine wpAny_pure ⟨plainId_quiet PySem.F.plain_extend_loop _, mapLoop T a DI nD xs i _ _ [] [] c3 hf R3 F3 (l.trans l3) S3 (Map.set_self ..) rfl (by simpa using hz) fun W' s' us' c' l'' R' F' hD' q' => ?_⟩
  show wpAny _ A (load s.heap.objs.size >>= _) _ _ s'
  refine wpAny_bind (wpAny_load (R'.hid hD') ?_)
  refine wpAny_pure ?_
  have := hQ W' s' us' l'' R' F' (by simpa using q')
  simpa using this
end
end Mine

end
section
open PySem PySem.W PyProof.Rows
set_option Elab.async false
set_option linter.unusedVariables false
set_option maxRecDepth 100000
set_option maxHeartbeats 2000000
namespace Mine
variable {X : Txt}
noncomputable def slotIs (x : Slot) (o : Obj) : Prop := match x with | .fro o' => o' = o | .hid o' => o' = o | _ => False
theorem HRel.push3 (T : X.Ok) {W : Map} {σ : Sto} {s : Shared} (R : HRel X W σ s) {x y z : Slot} {h' : Heap} (keep : ∀ b o, s.heap.get? b = some o → h'.get? b = some o) {o1 o2 o3 : Obj}
    (h1 : h'.get? s.heap.objs.size = some o1) (h2 : h'.get? (s.heap.objs.size + 1) = some o2) (h3 : h'.get? (s.heap.objs.size + 2) = some o3) (ex : slotIs x o1) (ey : slotIs y o2) (ez : slotIs z o3) (t : Nat) :
    Le W (((W.set s.heap.objs.size x).set (s.heap.objs.size + 1) y).set (s.heap.objs.size + 2) z) ∧ HRel X (((W.set s.heap.objs.size x).set (s.heap.objs.size + 1) y).set (s.heap.objs.size + 2) z) σ { s with heap := h', toks := t } := by
  have n1 := R.new
  have n2 : W (s.heap.objs.size + 1) = .no := R.above (by lia)
  have n3 : W (s.heap.objs.size + 2) = .no := R.above (by lia)
  have keepW : ∀ b, W b ≠ .no → (((W.set s.heap.objs.size x).set (s.heap.objs.size + 1) y).set (s.heap.objs.size + 2) z) b = W b := fun b hb => by
    rw [Map.set_ne (by rintro rfl; exact hb n3), Map.set_ne (by rintro rfl; exact hb n2), Map.set_ne (by rintro rfl; exact hb n1)]
  have l : Le W (((W.set s.heap.objs.size x).set (s.heap.objs.size + 1) y).set (s.heap.objs.size + 2) z) := by
    exact (Le.refl W).off keepW
  have new : ∀ (u : Slot) (o : Obj) (b : Addr), slotIs u o → h'.get? b = some o → SlotOk X (((W.set s.heap.objs.size x).set (s.heap.objs.size + 1) y).set (s.heap.objs.size + 2) z) h' b u := fun u o b hu hb => by
    cases u <;> first | exact hu.elim | (subst hu; exact hb)
  have ncel : ∀ (u : Slot) (o : Obj) (c : Cell), slotIs u o → u ≠ .cel c := fun u o c hu e => by subst e; exact hu
  refine ⟨l, fun b => ?_, fun b o q hb => l.fro _ _ (R.old b o q hb), fun b hb => ?_, fun b c => ?_, R.os, R.gens⟩
  · by_cases a3 : b = s.heap.objs.size + 2
    · subst a3; rw [Map.set_self]; exact new z o3 _ ez h3
    · by_cases a2 : b = s.heap.objs.size + 1
      · subst a2; rw [Map.set_ne a3, Map.set_self]; exact new y o2 _ ey h2
      · by_cases a1 : b = s.heap.objs.size
        · subst a1; rw [Map.set_ne a3, Map.set_ne a2, Map.set_self]; exact new x o1 _ ex h1
        · have e : (((W.set s.heap.objs.size x).set (s.heap.objs.size + 1) y).set (s.heap.objs.size + 2) z) b = W b := by rw [Map.set_ne a3, Map.set_ne a2, Map.set_ne a1]
          rw [e]; exact (R.ok b).mono T l.fro (keep b)
  · have q := R.tab b hb
    rw [keepW b (by rw [q]; intro h; cases h)]; exact q
  · rw [R.cel]
    by_cases a3 : b = s.heap.objs.size + 2
    · subst a3; rw [Map.set_self, n3]; exact ⟨fun e => (by cases e), fun e => absurd e (ncel z o3 c ez)⟩
    · by_cases a2 : b = s.heap.objs.size + 1
      · subst a2; rw [Map.set_ne a3, Map.set_self, n2]; exact ⟨fun e => (by cases e), fun e => absurd e (ncel y o2 c ey)⟩
      · by_cases a1 : b = s.heap.objs.size
        · subst a1; rw [Map.set_ne a3, Map.set_ne a2, Map.set_self, n1]; exact ⟨fun e => (by cases e), fun e => absurd e (ncel x o1 c ex)⟩
        · rw [Map.set_ne a3, Map.set_ne a2, Map.set_ne a1]
section
variable {k : Nat} {σ : Sto} {env : Env} {ρ : Loc} {M I : Addr} {f : Value}
theorem code_tup_map (T : X.Ok) {A : Around} {W₀ W : Map} {s : Shared} {xs : List PV} {i : Nat} {Q : Value → Shared → Prop} (a : AOk (k + 3) A) (hz : xs.length ≤ sizeLine)
    (hf : ∀ x ∈ xs, TOp X k (fun vs => PySem.call f vs) [x] σ fun p σ' => p = x ∧ σ' = σ) (R : HRel X W σ s) (F : FOk W env ρ s.heap) (l : Le W₀ W) (S : MSrc W₀ W M I f i xs)
    (hQ : ∀ W' s' us, Le W₀ W' → HRel X W' σ s' → FOk W' env ρ s'.heap → VRels W' xs us → Q (.ref s'.heap.objs.size) { s' with heap := s'.heap.push { cls := .type "tuple", data := .seq us.toArray } }) :
    codeAny X.M A (.call (.builtin "tuple.__new__") ⟨[.type "tuple", .ref M], []⟩) (wants Q (fun _ _ => False)) s := by
  refine codeAny_of_tree ?_
  show wpAny _ A.in1 (do checkBuiltinCall "tuple.__new__" ⟨[.type "tuple", .ref M], []⟩; again (.builtin "tuple.__new__" ⟨[.type "tuple", .ref M], []⟩)) _ _ s
  refine wpAny_bind (wpAny_of_eq (PySem.F.newCall_tuple_1 _) (wpAny_pure ⟨plainId_quiet PySem.F.plain_tuple_new _, codeAny_builtin PySem.F.entry_tuple_new ?_⟩))
  rw [Around.under_plainId PySem.F.plain_tuple_new _]
  have hsub := sub_tuple_self
  have hinit := init_tuple_lookup
  have hmh := madeHere_tuple
  obtain ⟨nM, nI, ne, t, l', oI, vs, n, h1, h2, h3, h4, h5, h6, h7⟩ := id S
  have hTI : s.TypeIs (.ref M) "map" := ⟨_, R.hid h1, rfl⟩
  have hcol : ∀ {Q' : List Value → Shared → Prop} {E' : Value → Shared → Prop}, (∀ us s', (∃ W', Le W₀ W' ∧ HRel X W' σ s' ∧ FOk W' env ρ s'.heap ∧ VRels W' xs us) → Q' us s') → wpAny (model X.prog X.w) A.in1 (collect (.ref M)) Q' E' s := fun h =>
    wpAny_mono (collectMap T a.in1 hz hf R F l S fun W' s' us l' R' F' q => h us s' ⟨W', l', R', F', q⟩) (fun _ _ h => h) fun _ _ e => e.elim
  wp_walk using wpAny_typeOf hTI, hcol
  rintro us s' ⟨W', l'', R', F', q⟩
  show wpAny _ _ (Builtin.Tuple.tupleExact us.toArray >>= fun v => ret v) _ _ _
  unfold Builtin.Tuple.tupleExact
  refine wpAny_bind (wpAny_newObj_type ?_ (by show us.toArray.size ≤ sizeLine; rw [List.size_toArray, q.length]; exact hz))
  exact wpAny_pure (hQ W' s' us l'' R' F' q)
theorem call_tup_map (T : X.Ok) {A : Around} {W₀ W : Map} {s : Shared} {xs : List PV} {i : Nat} {Q : Value → Shared → Prop} (a : AOk (k + 4) A) (hz : xs.length ≤ sizeLine)
    (hf : ∀ x ∈ xs, TOp X k (fun vs => PySem.call f vs) [x] σ fun p σ' => p = x ∧ σ' = σ) (R : HRel X W σ s) (F : FOk W env ρ s.heap) (l : Le W₀ W) (S : MSrc W₀ W M I f i xs)
    (hQ : ∀ W' s' us, Le W₀ W' → HRel X W' σ s' → FOk W' env ρ s'.heap → VRels W' xs us → Q (.ref s'.heap.objs.size) { s' with heap := s'.heap.push { cls := .type "tuple", data := .seq us.toArray } }) :
    wpAny X.M A (call (.type "tuple") [.ref M]) Q (fun _ _ => False) s := by
  refine callType_codes (Q₁ := fun obj s₁ => s₁.TypeIs obj "tuple" ∧ Q obj s₁) PySem.F.called_tuple (PySem.F.typeCall_tuple_1 _) PySem.F.entry_object_init
    (code_tup_map T a.in1 hz hf R F l S fun W' s' us l' R' F' q => ⟨⟨_, Heap.get?_push_size _ rfl, rfl⟩, hQ W' s' us l' R' F' q⟩) fun obj s₁ h₁ => ?_
  exact ⟨h₁.1, PySem.F.args_object_init_2 obj _, object_init_meets PySem.F.called_tuple.init.lookup PySem.F.called_tuple.made (by decide) X.prog X.w A.in1 _ s₁ ⟨h₁.1, rfl, h₁.2⟩⟩
/-- tuple(map(f, e)), where f gives back what it is given -/
theorem TE.tupMap (T : X.Ok) {e : Expr} {fn : Str} {p1 p2 p3 c1 c2 : Pos} {Q : PV → Sto → Prop} (hkt : env.kindOf "tuple" = some .globalImplicit) (hvt : X.glob "tuple" = some (.type "tuple")) (hkm : env.kindOf "map" = some .globalImplicit) (hvm : X.glob "map" = some (.type "map"))
    (hkf : env.kindOf fn = some .globalImplicit) (hvf : X.glob fn = some f) (hdf : (fn == ("__debug__" : Str)) = false) (hn : noStar [e] = true)
    (h : TE X (k + 4) env e ρ σ fun p σ1 => ∃ xs, p = .lst xs ∧ xs.length ≤ sizeLine ∧ (∀ x ∈ xs, TOp X k (fun vs => PySem.call f vs) [x] σ1 fun q σ' => q = x ∧ σ' = σ1) ∧ Q (.tup xs) σ1) :
    TE X (k + 4) env (.Call (.Name "tuple" p1) [.Call (.Name "map" p2) [.Name fn p3, e] [] c2] [] c1) ρ σ Q := .mk fun A W s aa R F => by
  obtain ⟨he, _⟩ := starEach_cons (env := env) hn
  refine wpAny_Call_ofName (gname F.kind F.glb F.blt (R.g T) (R.b T) hkt hvt (by decide) ?_)
  refine callWith_of (P := fun _ => True) rfl (fun hp _ => ⟨.machine, .inr (.inl rfl), Looks.of_pure rfl⟩) ?_
  refine Calls.evalArgs_plain (Calls.spliced_cons ?_)
  refine wpAny_Call_ofName (gname F.kind F.glb F.blt (R.g T) (R.b T) hkm hvm (by decide) ?_)
  have hs : starEach [.Name fn p3, e] env = [(false, eval (.Name fn p3) env), (false, eval e env)] := by
    show (false, _) :: starEach [e] env = _
    rw [he]; rfl
  rw [hs]
  refine callWith_of (P := fun _ => True) rfl (fun hp _ => ⟨.machine, .inr (.inl rfl), Looks.of_pure rfl⟩) ?_
  refine Calls.evalArgs_plain (Calls.spliced_cons ?_)
  refine gname F.kind F.glb F.blt (R.g T) (R.b T) hkf hvf hdf ?_
  refine Calls.spliced_cons ?_
  refine wpAny_mono (h.run A W s aa R F) (fun v s1 h1 => ?_) fun _ _ e => e.elim
  obtain ⟨W1, p, σ1, l1, R1, F1, r1, xs, rfl, hz, hf, hq⟩ := h1
  obtain ⟨al, us, n, rfl, hW, hz1, hu⟩ := r1
  refine Calls.spliced_nil ⟨trivial, ?_⟩
  show wpAny _ A (PySem.call (.type "map") [f, .ref al]) _ _ _
  refine call_map (R1.fro hW) fun h' e3 e2 e1 keep => ?_
  refine Calls.spliced_nil ⟨trivial, ?_⟩
  show wpAny _ A (PySem.call (.type "tuple") [.ref (s1.heap.objs.size + 2)]) _ _ _
  have n1 := R1.new
  have n2 : W1 (s1.heap.objs.size + 1) = .no := R1.above (by lia)
  have n3 : W1 (s1.heap.objs.size + 2) = .no := R1.above (by lia)
  have zi : s1.heap.objs.size ≠ s1.heap.objs.size + 2 := by lia
  have zt : s1.heap.objs.size + 1 ≠ s1.heap.objs.size + 2 := by lia
  have zti : s1.heap.objs.size ≠ s1.heap.objs.size + 1 := by lia
  obtain ⟨l3, R3⟩ := HRel.push3 T R1 keep (x := .hid { cls := .type "list_iterator", data := .fields #[.ref al, .int 0 0] }) (y := .fro (tupObj [.ref s1.heap.objs.size] 0)) (z := .hid (mapObj (s1.heap.objs.size + 1) f)) e1 e2 e3 rfl rfl rfl s1.toks
  have F3 : FOk (((W1.set s1.heap.objs.size (.hid { cls := .type "list_iterator", data := .fields #[.ref al, .int 0 0] })).set (s1.heap.objs.size + 1) (.fro (tupObj [.ref s1.heap.objs.size] 0))).set (s1.heap.objs.size + 2) (.hid (mapObj (s1.heap.objs.size + 1) f))) env ρ h' := (FOk.ext R1 F1 keep).goF l3.toF fun b _ => rfl
  have S : MSrc W1 (((W1.set s1.heap.objs.size (.hid { cls := .type "list_iterator", data := .fields #[.ref al, .int 0 0] })).set (s1.heap.objs.size + 1) (.fro (tupObj [.ref s1.heap.objs.size] 0))).set (s1.heap.objs.size + 2) (.hid (mapObj (s1.heap.objs.size + 1) f))) (s1.heap.objs.size + 2) s1.heap.objs.size f 0 xs := by
    refine ⟨n3, n1, Ne.symm zi, s1.heap.objs.size + 1, al, { cls := .type "list_iterator", data := .fields #[.ref al, .int 0 0] }, us, n, Map.set_self .., ?_, ?_, rfl, rfl, l3.fro _ _ hW, hu.le l3⟩
    · rw [Map.set_ne zt, Map.set_self]
    · rw [Map.set_ne zi, Map.set_ne zti, Map.set_self]
  refine call_tup_map T aa hz hf R3 F3 l3 S fun W' s' us' l' R' F' q => ?_
  have hsz : us'.length ≤ sizeLine := by rw [q.length]; exact hz
  have l4 := R'.le_set (.fro (tupObj us' 0))
  refine ⟨W'.set s'.heap.objs.size (.fro (tupObj us' 0)), .tup xs, σ1, (l1.trans l').trans l4, R'.pushFro T rfl s'.toks, FOk.push T R' F' _ _, ⟨_, us', 0, rfl, Map.set_self .., hsz, q.le l4⟩, hq⟩
end
end Mine

end
section
open PySem PySem.W PyProof.Rows SeqAt
set_option Elab.async false
set_option linter.unusedVariables false
set_option maxRecDepth 100000
set_option maxHeartbeats 2000000
namespace Mine
/-! a set of one truth value -/
noncomputable def tOne (led : Bool) : SetTable := { mask := 7, place := #[1], dummies := #[], finger := 0, led := led, moves := 0, plain := true }
noncomputable abbrev setObj (es : Array (Int × Value)) (ep : Nat) (t : SetTable) : Obj := { cls := .type "set", dict := none, data := .set es ep t }
theorem lay_one (led : Bool) (x : Value) : layNew (.fresh 0 0 led) #[] 1 x = (#[(1, x)], tOne led, false, false) := by cases led <;> rfl
theorem fits_one (led : Bool) : (tOne led).fits 1 = true := by cases led <;> rfl
theorem fits_none (led : Bool) : (SetTable.fresh 0 0 led).fits 0 = true := by cases led <;> rfl
theorem full_one (led : Bool) : (tOne led).tooFull = false := by cases led <;> rfl
section
variable {prog : Program} {w : World} {A : Around} {E : Value → Shared → Prop} {s : Shared} {D : Addr}
theorem hash_true {Q : Int → Shared → Prop} (h : Q 1 { s with toks := s.toks + 1 }) : wpAny (model prog w) A (pyHash (.bool true)) Q E s := by
  unfold pyHash pyHashByItsType
  have hv : [Value.bool true].any Value.onHeap = false := rfl
  have hT : s.TypeIs (.bool true) "bool" := rfl
  refine wpAny_bind ?_
  rw [cRoomFor, if_neg (by rw [hv]; exact Bool.false_ne_true)]; refine wpAny_pure ?_
  refine wpAny_bind (wpAny_specialOf hT PySem.F.slot_bool_hash.lookup ?_)
  show wpAny _ _ (if (some (Value.builtin "int.__hash__") == some Value.none) = true then _ else _) Q E s
  rw [if_neg (by rw [beq_builtin_none]; exact Bool.false_ne_true)]
  refine wpAny_bind (wpAny_specialOf hT PySem.F.slot_bool_hash.lookup ?_)
  show wpAny _ _ (callSpecialIfBoundUnlessNone? (.bool true) "__hash__" _ >>= _) Q E s
  refine wpAny_bind (wpAny_callSpecialIfBoundUnlessNone?_slot hT PySem.F.slot_bool_hash
    (wpAny_call_entry PySem.F.slot_bool_hash hT entry_int_hash
      (show wpAny _ _ (do ret (← mkInt 1)) _ _ s from wpAny_ret_mkInt ?_) (args_int_hash _)))
  show wpAny _ _ (if (decide (-(2 : Int) ^ 63 ≤ 1) && decide ((1 : Int) < 2 ^ 63)) = true then _ else _) Q E _
  rw [if_pos (by decide)]
  exact wpAny_pure h
theorem set_state {es : Array (Int × Value)} {ep : Nat} {t : SetTable} {Q : (Array (Int × Value) × Nat × SetTable) → Shared → Prop} (ho : s.heap.get? D = some (setObj es ep t)) (hf : t.fits es.size = true) (h : Q (es, ep, t) s) :
    wpAny (model prog w) A (setState D) Q E s := wpAny_setState_of ho rfl hf h
theorem add_first {led : Bool} {ep : Nat} {Q : Value → Shared → Prop} (ho : s.heap.get? D = some (setObj #[] ep (.fresh 0 0 led)))
    (h : ∀ h' ep', Heap.SameBut D s.heap h' → h'.get? D = some (setObj #[(1, .bool true)] ep' (tOne led)) → Q .none { s with heap := h', toks := s.toks + 1 }) :
    wpAny (model prog w) A (call (.builtin "set.add") [.ref D, .bool true]) Q E s := by
  have hT : s.TypeIs (.ref D) "set" := ⟨_, ho, rfl⟩
  refine wpAny_call_entry PySem.F.slot_set_add hT PySem.F.entry_set_add ?_ (PySem.F.args_set_add_2 _ _)
  unfold Builtin.«set.add» Builtin.Frozenset.oneOther
  simp only [List.isEmpty_nil, bind_assoc]
  unfold Builtin.Frozenset.addrOf setAdd
  refine wpAny_bind (wpAny_pure ?_)
  try dsimp only
  refine wpAny_bind (wpAny_pure ?_)
  try dsimp only
  refine wpAny_bind ?_
  refine wpAny_holding ?_
  refine wpAny_bind (hash_true ?_)
  unfold setAddHashed setAddHashedIn
  refine wpAny_holding (wpAny_bind (set_state (s := { s with toks := s.toks + 1 }) ho (fits_none led) ?_))
  dsimp only
  rw [show byScan (.bool true) #[] = true from by kernel_rfl]
  simp only [↓reduceIte]
  unfold setAddByScan
  refine wpAny_bind ?_
  refine wpAny_bind (wpAny_rule ?_)
  refine wpAny_bind (wpAny_of_eq (show setScan D (.bool true) 1 true #[] = pure .absent from rfl) ?_)
  dsimp only
  rw [lay_one]
  dsimp only
  refine wpAny_bind (wpAny_pure ?_)
  rw [show (tOne led).plain = true from rfl, if_pos rfl]
  refine wpAny_bind (wpAny_of_eq (show hashByValue 8 (.bool true) = pure true from rfl) ?_)
  simp only [if_true]
  refine wpAny_bind (wpAny_storeSet_of (s := { s with toks := s.toks + 1 }) ho rfl ?_ (by have := sl_big; show 1 ≤ _; lia))
  rw [full_one]
  simp only [Bool.not_false, Bool.and_false, Bool.false_eq_true, if_false]
  have hup := Heap.get?_update_self (Obj.putSet #[(1, .bool true)] (tOne led)) ho rfl
  refine wpAny_pure ?_
  dsimp only
  refine wpAny_pure ?_
  exact wpAny_pure ⟨_, rfl, h _ (ep + 1) (Heap.SameBut.update ..) hup⟩
theorem add_again {led : Bool} {ep : Nat} {Q : Value → Shared → Prop} (ho : s.heap.get? D = some (setObj #[(1, .bool true)] ep (tOne led))) (h : Q .none { s with toks := s.toks + 1 }) :
    wpAny (model prog w) A (call (.builtin "set.add") [.ref D, .bool true]) Q E s := by
  have hT : s.TypeIs (.ref D) "set" := ⟨_, ho, rfl⟩
  refine wpAny_call_entry PySem.F.slot_set_add hT PySem.F.entry_set_add ?_ (PySem.F.args_set_add_2 _ _)
  unfold Builtin.«set.add» Builtin.Frozenset.oneOther
  simp only [List.isEmpty_nil, bind_assoc]
  unfold Builtin.Frozenset.addrOf setAdd
  refine wpAny_bind (wpAny_pure ?_)
  try dsimp only
  refine wpAny_bind (wpAny_pure ?_)
  try dsimp only
  refine wpAny_bind ?_
  refine wpAny_holding ?_
  refine wpAny_bind (hash_true ?_)
  unfold setAddHashed setAddHashedIn
  refine wpAny_holding (wpAny_bind (set_state (s := { s with toks := s.toks + 1 }) ho (fits_one led) ?_))
  dsimp only
  rw [show byScan (.bool true) #[(1, .bool true)] = true from by kernel_rfl]
  simp only [↓reduceIte]
  unfold setAddByScan
  refine wpAny_bind ?_
  refine wpAny_bind (wpAny_rule ?_)
  show wpAny _ _ (setScanFrom D (.bool true) 1 true [(1, .bool true)] 0 >>= _) _ _ _
  unfold setScanFrom
  rw [if_pos (by decide)]
  refine wpAny_bind (wpAny_bind (wpAny_setEpoch_of (s := { s with toks := s.toks + 1 }) ho rfl (fits_one led) ?_))
  refine wpAny_bind (EqAt.bool_bool true true prog w _ _ ?_)
  refine wpAny_pure ?_
  dsimp only
  refine wpAny_pure (wpAny_pure ?_)
  exact wpAny_pure ⟨_, rfl, h⟩
theorem new_set {Q : Value → Shared → Prop} (h : Q (.ref s.heap.objs.size) { s with heap := s.heap.push (setObj #[] 0 (.fresh 0 0 (!(w.params.followText "set-order")))) }) : wpAny (model prog w) A (newSet (.type "set")) Q E s := by
  unfold newSet setsByText
  refine wpAny_bind (wpAny_bind (wpAny_askSetting (wpAny_pure ?_)))
  dsimp only
  simp only [newObj]
  exact wpAny_bind (wpAny_alloc (wpAny_pure h))
end
end Mine

end
section
open PySem PySem.W PyProof.Rows SeqAt
set_option Elab.async false
set_option linter.unusedVariables false
set_option maxRecDepth 100000
set_option maxHeartbeats 2000000
namespace Mine
theorem slot_set_iter : PySem.Slot "set" "__iter__" "set.__iter__" := .of (owner := "set") (n := "__iter__") (by rw [typeLookup_type, builtinLookup_eq_fast]; kernel_rfl) (by decide +kernel) (by decide +kernel) (by decide +kernel) (by first | exact .inl (by decide +kernel) | exact .inr (by decide +kernel)) (by rw [isSubtype_type]; kernel_rfl)
theorem slot_si_next : PySem.Slot "set_iterator" "__next__" "set_iterator.__next__" := .of (owner := "set_iterator") (n := "__next__") (by rw [typeLookup_type, builtinLookup_eq_fast]; kernel_rfl) (by decide +kernel) (by decide +kernel) (by decide +kernel) (by first | exact .inl (by decide +kernel) | exact .inr (by decide +kernel)) (by rw [isSubtype_type]; kernel_rfl)
theorem entry_set_iter : entryFor table "set.__iter__" = some Builtin.«frozenset.__iter__» :=
  entryFor_alias (id' := "frozenset.__iter__") (by kernel_rfl) (by first | rfl | decide +kernel | (unfold String.splitOn; simp +decide [String.splitOnAux])) (by decide +kernel) (by kernel_rfl)
theorem entry_si_next : entryFor table "set_iterator.__next__" = some Builtin.«set_iterator.__next__» := entryFor_of_tree (by kernel_rfl)
theorem args_set_iter (a : Value) : argsOk "set.__iter__" ⟨[a], []⟩ := by unfold argsOk; kernel_rfl
theorem args_si_next (a : Value) : argsOk "set_iterator.__next__" ⟨[a], []⟩ := by unfold argsOk; kernel_rfl
noncomputable abbrev siObj (D : Addr) (k i ep : Int) : Obj := { cls := .type "set_iterator", data := .fields #[rawInt k, rawInt i, .ref D, rawInt 1, rawInt ep] }
section
variable {prog : Program} {w : World} {A : Around} {E : Value → Shared → Prop} {s : Shared} {D : Addr}
theorem iter_set {led : Bool} {ep : Nat} {Q : Value → Shared → Prop} (ho : s.heap.get? D = some (setObj #[(1, .bool true)] ep (tOne led)))
    (h : Q (.ref s.heap.objs.size) { s with heap := s.heap.push (siObj D 0 0 ep) }) : wpAny (model prog w) A (pyIter (.ref D)) Q E s := by
  have hT : s.TypeIs (.ref D) "set" := ⟨_, ho, rfl⟩
  refine wpAny_pyIter_slot hT slot_set_iter (wpAny_call_entry slot_set_iter hT entry_set_iter ?_ (args_set_iter _))
  unfold Builtin.«frozenset.__iter__»
  have st : ∀ {Q' : (Array (Int × Value) × Nat × SetTable) → Shared → Prop}, Q' (#[(1, .bool true)], ep, tOne led) s → wpAny (model prog w) A.in1 (setState D) Q' E s := fun q => set_state ho (fits_one led) q
  wp_walk using st
  refine wpAny_askSetting (wpAny_pure ?_)
  refine wpAny_of_eq (a := false) (by show pure (_ && false) = pure false; rw [Bool.and_false]) ?_
  dsimp only
  rw [if_neg Bool.false_ne_true]
  refine wpAny_bind (wpAny_pure (wpAny_bind (wpAny_setEpoch_of ho rfl (fits_one led) ?_)))
  refine wpAny_bind (wpAny_newObj_type (wpAny_pure ⟨_, rfl, "set_iterator", _, ⟨_, Heap.get?_push_size _ rfl, rfl⟩, slot_si_next.lookup, ?_⟩))
  exact h
theorem pick_one {α : Type} (f : Nat → Nat) (x : α) : pickOrder f #[x] = #[x] := by
  unfold pickOrder
  show pickOrder.go f 1 0 [x] #[] = _
  simp [pickOrder.go, Nat.mod_one]
theorem set_next0 {ep : Nat} {Q : Option (Value × Nat) → Shared → Prop} (ho : s.heap.get? D = some (setObj #[(1, .bool true)] ep (tOne (!(w.params.followText "set-order")))))
    (h : ∀ k : Nat, (w.params.followText "set-order" = true ∨ k = 2) → Q (some (.bool true, k)) s) : wpAny (model prog w) A (setNext D 0 0 ep) Q E s := by
  unfold setNext
  refine wpAny_bind (set_state ho (fits_one _) ?_)
  dsimp only
  unfold setsByText
  refine wpAny_bind (wpAny_bind (wpAny_askSetting (wpAny_pure ?_)))
  show wpAny _ _ (if w.params.followText "set-order" = true then _ else _) _ _ _
  cases hb : w.params.followText "set-order" with
  | true =>
    simp only [if_true, bne_self_eq_false, Bool.false_eq_true, if_false]
    refine wpAny_bind ?_
    unfold setWalk setsByText
    refine wpAny_bind (set_state ho (fits_one _) ?_)
    dsimp only
    refine wpAny_bind (wpAny_bind (wpAny_askSetting (wpAny_pure ?_)))
    show wpAny _ _ (if w.params.followText "set-order" = true then _ else _) _ _ _
    rw [hb, if_pos rfl]
    refine wpAny_bind (wpAny_askSetting (wpAny_pure ?_))
    rw [pick_one]
    exact wpAny_pure (h 0 (.inl hb))
  | false =>
    rw [if_neg Bool.false_ne_true]
    refine wpAny_of_eq (a := some (.bool true, 2)) ?_ (h 2 (.inr rfl))
    rfl
theorem set_next1 {ep k : Nat} {Q : Option (Value × Nat) → Shared → Prop} (ho : s.heap.get? D = some (setObj #[(1, .bool true)] ep (tOne (!(w.params.followText "set-order"))))) (hk : w.params.followText "set-order" = true ∨ k = 2)
    (h : Q none s) : wpAny (model prog w) A (setNext D k 1 ep) Q E s := by
  unfold setNext
  refine wpAny_bind (set_state ho (fits_one _) ?_)
  dsimp only
  unfold setsByText
  refine wpAny_bind (wpAny_bind (wpAny_askSetting (wpAny_pure ?_)))
  show wpAny _ _ (if w.params.followText "set-order" = true then _ else _) _ _ _
  cases hb : w.params.followText "set-order" with
  | true =>
    simp only [if_true, bne_self_eq_false, Bool.false_eq_true, if_false]
    refine wpAny_bind ?_
    unfold setWalk setsByText
    refine wpAny_bind (set_state ho (fits_one _) ?_)
    dsimp only
    refine wpAny_bind (wpAny_bind (wpAny_askSetting (wpAny_pure ?_)))
    show wpAny _ _ (if w.params.followText "set-order" = true then _ else _) _ _ _
    rw [hb, if_pos rfl]
    refine wpAny_bind (wpAny_askSetting (wpAny_pure ?_))
    rw [pick_one]
    exact wpAny_pure h
  | false =>
    rw [if_neg Bool.false_ne_true]
    have hk2 : k = 2 := by rcases hk with e | e; · rw [hb] at e; cases e
                           · exact e
    subst hk2
    refine wpAny_of_eq (a := none) ?_ h
    rfl
theorem si_first {ep : Nat} {it : Addr} {Q : Option Value → Shared → Prop} (ho : s.heap.get? D = some (setObj #[(1, .bool true)] ep (tOne (!(w.params.followText "set-order"))))) (hi : s.heap.get? it = some (siObj D 0 0 ep))
    (h : ∀ h' (k : Nat), Heap.SameBut it s.heap h' → h'.get? it = some (siObj D k 1 ep) → (w.params.followText "set-order" = true ∨ k = 2) → Q (some (.bool true)) { s with heap := h' }) : wpAny (model prog w) A (pyNext (.ref it)) Q E s := by
  have hT : s.TypeIs (.ref it) "set_iterator" := ⟨_, hi, rfl⟩
  unfold pyNext
  refine wpAny_bind (wpAny_attempt (wpAny_callSpecial?_slot (name := Str.ofString "__next__") hT slot_si_next (wpAny_call_entry slot_si_next hT entry_si_next ?_ (args_si_next _))))
  unfold Builtin.«set_iterator.__next__»
  have st : ∀ {A : Around} {E : Value → Shared → Prop} {Q' : (Array (Int × Value) × Nat × SetTable) → Shared → Prop}, Q' (#[(1, .bool true)], ep, tOne (!(w.params.followText "set-order"))) s → wpAny (model prog w) A (setState D) Q' E s := fun q => set_state ho (fits_one _) q
  have nx : ∀ {A : Around} {E : Value → Shared → Prop} {Q' : Option (Value × Nat) → Shared → Prop}, (∀ k : Nat, (w.params.followText "set-order" = true ∨ k = 2) → Q' (some (.bool true, k)) s) → wpAny (model prog w) A (setNext D (Int.toNat 0) (Int.toNat 0) (Int.toNat (ep : Int))) Q' E s := fun q => set_next0 ho q
  wp_walk using st, wpAny_fieldsOf hi rfl, nx
  intro k hk
  dsimp only
  refine wpAny_bind (wpAny_setField_rec hi (by simp) fun h1 hi1 hs1 => ?_)
  refine wpAny_bind (wpAny_setField_rec (s := { s with heap := h1 }) hi1 (by simp) fun h2 hi2 hs2 => ?_)
  refine wpAny_pure ⟨_, rfl, wpAny_pure (h h2 k (Heap.SameBut.trans hs1 hs2) ?_ hk)⟩
  exact hi2
theorem si_end {ep k : Nat} {it : Addr} {Q : Option Value → Shared → Prop} (hh : A.handled = none) (ho : s.heap.get? D = some (setObj #[(1, .bool true)] ep (tOne (!(w.params.followText "set-order"))))) (hi : s.heap.get? it = some (siObj D k 1 ep)) (hk : w.params.followText "set-order" = true ∨ k = 2)
    (h : ∀ h', Heap.ExtBut it s.heap h' → Q none { s with heap := h' }) : wpAny (model prog w) A (pyNext (.ref it)) Q E s := by
  have hT : s.TypeIs (.ref it) "set_iterator" := ⟨_, hi, rfl⟩
  unfold pyNext
  refine wpAny_bind (wpAny_attempt (wpAny_callSpecial?_slot (name := Str.ofString "__next__") hT slot_si_next (wpAny_call_entry slot_si_next hT entry_si_next ?_ (args_si_next _))))
  unfold Builtin.«set_iterator.__next__»
  have st : ∀ {A : Around} {E : Value → Shared → Prop} {Q' : (Array (Int × Value) × Nat × SetTable) → Shared → Prop}, Q' (#[(1, .bool true)], ep, tOne (!(w.params.followText "set-order"))) s → wpAny (model prog w) A (setState D) Q' E s := fun q => set_state ho (fits_one _) q
  have nx : ∀ {A : Around} {E : Value → Shared → Prop} {Q' : Option (Value × Nat) → Shared → Prop}, Q' none s → wpAny (model prog w) A (setNext D (Int.toNat (k : Int)) (Int.toNat 1) (Int.toNat (ep : Int))) Q' E s := fun q => set_next1 ho hk q
  wp_walk using st, wpAny_fieldsOf hi rfl, nx
  simp only [raiseNew]
  refine wpAny_bind (wpAny_handled ?_)
  rw [show A.in1.handled = none from hh]
  refine wpAny_bind (wpAny_pure (wpAny_throw ?_))
  refine wpAny_bind (wpAny_isInstance (T := "StopIteration") (b := true) ⟨_, Heap.get?_push_size _ rfl, rfl⟩ isSubtype_stop ?_)
  exact wpAny_pure (h _ (((Heap.SameBut.update ..).extBut.push _).push _))
end
end Mine

end
section
open PySem PySem.W PyProof.Rows SeqAt
set_option Elab.async false
set_option linter.unusedVariables false
set_option maxRecDepth 100000
set_option maxHeartbeats 2000000
namespace Mine
variable {X : Txt}
noncomputable def ledOf (X : Txt) : Bool := !(X.w.params.followText "set-order")
noncomputable def setAt (X : Txt) (some : Bool) (ep : Nat) : Obj := if some then setObj #[(1, .bool true)] ep (tOne (ledOf X)) else setObj #[] ep (.fresh 0 0 (ledOf X))
structure SAcc (X : Txt) (W₀ W : Map) (D : Addr) (some : Bool) : Prop where
  no : W₀ D = .no
  at' : ∃ ep, W D = .hid (setAt X some ep)
theorem setAt_cell (b : Bool) (ep : Nat) : ∀ v, (setAt X b ep).data ≠ .cell v := by cases b <;> (intro v h; cases h)
theorem SAcc.le {W₀ W W' : Map} {D : Addr} {b : Bool} (x : SAcc X W₀ W D b) (l : Le W W') : SAcc X W₀ W' D b := let ⟨ep, e⟩ := x.at'; ⟨x.no, ep, l.hid _ _ e⟩
theorem SAcc.push (T : X.Ok) {A : Around} {W₀ W : Map} {σ : Sto} {s : Shared} {env : Env} {ρ : Loc} {D : Addr} {b : Bool} {E : Value → Shared → Prop} (x : SAcc X W₀ W D b) (l : Le W₀ W) (R : HRel X W σ s) (F : FOk W env ρ s.heap)
    {Q : Value → Shared → Prop} (h : ∀ W' s', Le W₀ W' → HRel X W' σ s' → FOk W' env ρ s'.heap → SAcc X W₀ W' D true → (∀ b, b ≠ D → W' b = W b) → Q .none s') :
    wpAny X.M A (call (.builtin "set.add") [.ref D, .bool true]) Q E s := by
  obtain ⟨no, ep, hD⟩ := x
  cases b with
  | false =>
    refine add_first (R.hid hD) fun h' ep' hs ho => ?_
    obtain ⟨R', F'⟩ := moved T R F hD (setAt_cell _ _) hs ho (s.toks + 1)
    exact h _ _ (l.setHid no) R' F' ⟨no, ep', Map.set_self ..⟩ fun b hb => Map.set_ne hb
  | true =>
    refine add_again (R.hid hD) ?_
    exact h W _ l (R.toks _) F ⟨no, ep, hD⟩ fun _ _ => rfl
theorem setAt_dat (b : Bool) (ep : Nat) : ∀ us, (setAt X b ep).data ≠ .fields us := by cases b <;> (intro v h; cases h)
theorem Src.dat {W₀ W : Map} {it : Addr} {xs : List PV} (S : Src W₀ W it xs) : ∃ o, W it = .hid o ∧ ∃ us, o.data = .fields us := by
  cases S with
  | list h0 h1 h2 h3 h4 h5 => exact ⟨_, h1, _, h3⟩
  | tup h0 h1 h2 h3 h4 h5 => exact ⟨_, h1, _, h3⟩
  | range h0 h1 => exact ⟨_, h1, _, rfl⟩
theorem Src.off {W₀ W W' : Map} {it D : Addr} {o : Obj} {xs : List PV} (S : Src W₀ W it xs) (hD : W D = .hid o) (ho : ∀ us, o.data ≠ .fields us) (h : ∀ b, b ≠ D → W' b = W b) : Src W₀ W' it xs := by
  have hne : it ≠ D := by
    rintro rfl
    obtain ⟨o', h1, us, h2⟩ := S.dat
    rw [hD] at h1
    rw [← Slot.hid.inj h1] at h2
    exact ho us h2
  have lf : ∀ b o, W b = .fro o → W' b = .fro o := fun b o e => by rw [h b (by first | exact nq e (hD) rfl | exact Ne.symm (nq e (hD) rfl) | (rintro rfl; rw [hD] at e; cases e))]; exact e
  cases S with
  | list a b c d e f => exact .list a ((h _ hne).trans b) c d (lf _ _ e) (VRels.mono lf _ _ f)
  | tup a b c d e f => exact .tup a ((h _ hne).trans b) c d (lf _ _ e) (VRels.mono lf _ _ f)
  | range a b => exact .range a ((h _ hne).trans b)
section
variable {k : Nat} {env : Env}
noncomputable def TSet (X : Txt) (k : Nat) (env : Env) (elt : Expr) (g : Comprehension) : List PV → Loc → Sto → (Sto → Prop) → Prop
  | [], _, σ, Q => Q σ
  | x :: xs, ρ, σ, Q => TAsg X k env g.target x ρ σ fun ρ1 σ1 => TE X k env elt ρ1 σ1 fun p σ2 => p = .bool true ∧ TSet X k env elt g xs ρ1 σ2 Q
inductive SPostG (X : Txt) (W₀ : Map) (env : Env) (D : Addr) (b : Bool) (Q : Sto → Prop) (s' : Shared) : Prop
  | mk (W : Map) (ρ : Loc) (σ : Sto) (l : Le W₀ W) (R : HRel X W σ s') (F : FOk W env ρ s'.heap) (C : SAcc X W₀ W D b) (q : Q σ)
theorem setTurn {elt : Expr} {g : Comprehension} {scope : Scope} {pos : Pos} {it acc : Value} (ha : g.is_async = 0) (hi : g.ifs = []) :
    compTurn (.SetComp elt [g] scope pos) 0 it acc env = (standAt g.iter.pos >>= fun _ => pyNext it >>= fun r => match r with
      | none => pure (.done .next)
      | some v => letOwnedTupleGo g.target it v >>= fun _ => PySem.assign g.target env v >>= fun _ =>
          (eval elt env >>= fun x => standAt elt.pos >>= fun _ => call (.builtin "set.add") [acc, x] >>= fun _ => pure ()) >>= fun _ => again (.compLoop (.SetComp elt [g] scope pos) 0 it acc env)) := by
  obtain ⟨tg, iter, ifs, as⟩ := g
  dsimp only at ha hi
  subst ha hi
  rfl
theorem codeAny_setStart {A : Around} {elt : Expr} {g : Comprehension} {scope : Scope} {pos : Pos} {it acc : Value} {R : Result → Shared → Prop} {s : Shared} (ha : g.is_async = 0)
    (h0 : codeAny X.M A (.compLoop (.SetComp elt [g] scope pos) 0 it acc env) R s)
    (h : wpAny X.M A (pyIter it) (fun it' s' => codeAny X.M A (.compLoop (.SetComp elt [g] scope pos) 0 it' acc env) R s') (fun _ _ => False) s) :
    codeAny X.M A (.compStart (.SetComp elt [g] scope pos) 0 it acc env) R s := by
  refine codeAny_of_tree ?_
  show wpAny _ _ ((compStart (.SetComp elt [g] scope pos) 0 it acc env).onRaise (fun x => do noteFrame x env; standAt theWindowsPlace)) _ _ s
  refine wpAny_notedAt ?_
  have hc : (clausesOf (.SetComp elt [g] scope pos))[0]? = some g := rfl
  unfold compStart
  simp only [hc, Option.elim, ha]
  refine wpAny_bind (wpAny_askSetting (wpAny_ite ?_))
  split
  · exact wpAny_bind (wpAny_pure (wpAny_pure (And.intro rfl h0)))
  · refine wpAny_bind (wpAny_rule ?_)
    refine wpAny_bind (wpAny_standAt (wpAny_bind (wpAny_mono h (fun it' s' h' => wpAny_pure (And.intro rfl h')) fun _ _ x => x.elim)))
inductive SetI (X : Txt) (k : Nat) (env : Env) (elt : Expr) (g : Comprehension) (W₀ : Map) (it D : Addr) (Q : Sto → Prop) (n : Nat) (s : Shared) : Prop
  | mk (W : Map) (ρ : Loc) (σ : Sto) (b : Bool) (xs : List PV) (z : xs.length = n) (l : Le W₀ W) (R : HRel X W σ s) (F : FOk W env ρ s.heap) (C : SAcc X W₀ W D b) (S : Src W₀ W it xs) (h : TSet X k env elt g xs ρ σ Q) (hb : b = true ∨ xs ≠ [])
theorem setLoop_ok (T : X.Ok) {elt : Expr} {g : Comprehension} {scope : Scope} {pos : Pos} (hgo : genOk g = true) (hi : g.ifs = []) {A : Around} {W₀ W : Map} {ρ : Loc} {σ : Sto} {s : Shared} {it D : Addr} {xs : List PV} {Q : Sto → Prop}
    (a : AOk k A) (l : Le W₀ W) (R : HRel X W σ s) (F : FOk W env ρ s.heap) (C : SAcc X W₀ W D false) (S : Src W₀ W it xs) (hne0 : xs ≠ []) (h : TSet X k env elt g xs ρ σ Q) :
    codeAny X.M A (.compLoop (.SetComp elt [g] scope pos) 0 (.ref it) (.ref D) env) (fun r s' => r = .ok .next ∧ SPostG X W₀ env D true Q s') s := by
  simp only [genOk, Bool.and_eq_true, beq_iff_eq] at hgo
  obtain ⟨⟨ha, htg⟩, hns⟩ := hgo
  refine codeAny_loop rfl (SetI X k env elt g W₀ it D Q) ?_ xs.length ⟨W, ρ, σ, false, xs, rfl, l, R, F, C, S, h, .inr hne0⟩
  rintro n s ⟨W, ρ, σ, b, xs, hlen, l, R, F, C, S, h, hb⟩
  show wpAny _ A ((compTurn (.SetComp elt [g] scope pos) 0 (.ref it) (.ref D) env).onRaise (fun x => do noteFrame x env; theTreesLotGoes x)) _ _ s
  refine wpAny_noted ?_
  obtain ⟨hit0, oit, hit, _, hitl⟩ := S.facts
  obtain ⟨ep, hD⟩ := C.at'
  have hne : D ≠ it := by
    rintro rfl
    obtain ⟨o, h1, us, h2⟩ := S.dat
    rw [hD] at h1
    rw [← Slot.hid.inj h1] at h2
    exact setAt_dat _ _ us h2
  have keep : ∀ W1 : Map, (∀ b, b ≠ it → W1 b = W b) → SAcc X W₀ W1 D b := fun W1 h => ⟨C.no, ep, (h D hne).trans hD⟩
  rw [setTurn ha hi]
  cases xs with
  | nil =>
    refine wpAny_bind (wpAny_standAt (wpAny_bind (wpAny_mono (Src.done T a R F l rfl S) (fun r s1 h1 => ?_) fun _ _ e => e.elim)))
    obtain ⟨W1, rfl, l1, R1, F1, k1⟩ := h1
    have hbt : b = true := hb.elim _root_.id fun e => absurd rfl e
    subst hbt
    exact wpAny_pure ⟨rfl, W1, ρ, σ, l1, R1, F1, keep W1 k1, h⟩
  | cons x xs =>
    have hlt : xs.length < n := by rw [← hlen]; simp
    refine wpAny_bind (wpAny_standAt (wpAny_bind (wpAny_mono (Src.next T a R F l rfl S) (fun r s1 h1 => ?_) fun _ _ e => e.elim)))
    obtain ⟨v, W1, rfl, l1, R1, F1, r1, S1, k1⟩ := h1
    have C1 := keep W1 k1
    refine wpAny_bind (letOwned_ok htg R1 S1 r1 ?_)
    refine wpAny_bind (wpAny_mono (h.run A W1 s1 v a R1 F1 r1) (fun _ s2 h2 => ?_) fun _ _ e => e.elim)
    obtain ⟨W2, ρ2, σ2, l2, R2, F2, h2⟩ := h2
    refine wpAny_bind (wpAny_bind (wpAny_mono (h2.run A W2 s2 a R2 F2) (fun v4 s4 h4 => ?_) fun _ _ e => e.elim))
    obtain ⟨W4, p, σ4, l4, R4, F4, r4, rfl, h4⟩ := h4
    obtain rfl : v4 = .bool true := r4
    have C4 := C1.le (l2.trans l4)
    refine wpAny_bind (wpAny_standAt (wpAny_bind (SAcc.push T C4 ((l1.trans l2).trans l4) R4 F4 fun W5 s5 l5 R5 F5 C5 k5 => ?_)))
    refine wpAny_pure (wpAny_pure ⟨rfl, xs.length, hlt, W5, ρ2, σ4, true, xs, rfl, l5, R5, F5, C5, ?_, h4, .inl rfl⟩)
    have S4 := S1.le (l2.trans l4)
    obtain ⟨ep4, hD4⟩ := C4.at'
    exact S4.off hD4 (setAt_dat _ _) k5
end
section
variable {k : Nat} {env : Env} {ρ : Loc} {σ : Sto}
theorem setComp_core (T : X.Ok) {elt : Expr} {g : Comprehension} {scope : Scope} {pos : Pos} (hok : genOk g = true) (hi : g.ifs = []) (hsc : scopeOk env.kindOf scope = true) {QQ : Sto → Prop}
    (h : TI X k env g.iter ρ σ fun xs σ1 => xs ≠ [] ∧ ∀ C, TSet X k (compEnvC scope (closOf scope.names env.cells) C env) elt g xs (compLoc scope ρ) σ1 QQ)
    {A : Around} {W : Map} {s : Shared} (a : AOk k A) (R : HRel X W σ s) (F : FOk W env ρ s.heap) {Q : Value → Shared → Prop}
    (hq : ∀ W' σ' s' D C oC ep, Le W W' → HRel X W' σ' s' → FOk W' env ρ s'.heap → W D = .no → W' D = .hid (setAt X true ep) → W C = .no → W' C = .hid oC → (∀ v, oC.data ≠ .cell v) → (∃ m, s'.heap.Ns C m) → D ≠ C → QQ σ' →
      compPost X.M A (fun _ _ => False) none Q (.ref D) C (.ok .next) s') (fpos : Pos) :
    wpAny X.M A (comprehension (.SetComp elt [g] scope pos) scope env fpos (newSet (.type "set")) false (eval g.iter env) none) Q (fun _ _ => False) s := by
  have hgo := hok
  simp only [genOk, Bool.and_eq_true, beq_iff_eq] at hgo
  obtain ⟨⟨ha, htg⟩, hns⟩ := hgo
  have hsc' := hsc
  simp only [scopeOk, Bool.and_eq_true, beq_iff_eq, List.all_eq_true] at hsc'
  obtain ⟨hsk, hall⟩ := hsc'
  have hcell : ∀ y ∈ scope.names, y.2 ≠ .cell := fun y hy e => by have := hall y hy; simp [e] at this
  have hnames : ∀ y ∈ scope.names, y.2 = .local → scope.names.lookup y.1 = some .local := fun y hy e => by have := hall y hy; simpa [e] using this
  have hfree : ∀ y ∈ scope.names, y.2 = .free → ∃ c, env.cells.lookup y.1 = some c := fun y hy e => by
    have h1 := hall y hy
    have h2 : env.kindOf y.1 = some .cell := by simpa [e] using h1
    obtain ⟨c, _, hc, _⟩ := F.celW y.1 h2
    exact ⟨c, hc⟩
  refine wpAny_comprehension_free rfl (folded_plain hns) (closureFor_eq hfree) hsk hnames ?_
  refine wpAny_mono (h.run A W s a R F) (fun x s1 h1 => wpAny_mono h1 (fun iv s2 h2 => ?_) fun _ _ e => e) fun _ _ e => e
  obtain ⟨W1, it, xs, σ1, rfl, l1, R1, F1, S1, hne0, h2⟩ := h2
  refine new_set ?_
  change wpAny X.M A _ _ _ { s2 with heap := s2.heap.push (setAt X false 0) }
  refine wpAny_newFunctionEnv hcell (by intro y hy; simp at hy) (fun h₁ hns₁ hsb₁ => ?_) hsk
  dsimp only at hns₁ hsb₁ ⊢
  obtain ⟨hit0, oit, hit, hitc, hitl⟩ := S1.facts
  -- the frame's own map, the iterator let go
  obtain ⟨Rb, Fb⟩ := gone T R1 F1 hit hitc (Heap.ExtBut.refl it s2.heap) s2.toks
  have lWb : Le W (W1.set it .no) := l1.setHid hit0
  generalize hWb : W1.set it .no = Wb at Rb Fb lWb
  have Rb : HRel X Wb σ1 s2 := Rb
  have R1h := R1.hide T
  have l12 := R1h.le_set (.hid (setAt X false 0))
  have R2 := R1h.pushHid T (o := setAt X false 0) rfl s2.toks
  have hDn : Wb s2.heap.objs.size = .no := Rb.new
  generalize hD : s2.heap.objs.size = D at *
  generalize hW2 : (hideOwn W1 s2.heap).set D (.hid (setAt X false 0)) = W2 at l12 R2
  have hH : (s2.heap.push (setAt X false 0)).objs.size = D + 1 := by rw [Heap.size_push, hD]
  have l23 := R2.le_set .own
  have R3 := R2.pushOwn T (o := { cls := .type "dict", data := .dict #[] }) rfl s2.toks
  have hCn : Wb (s2.heap.push (setAt X false 0)).objs.size = .no := by
    cases e : Wb (s2.heap.push (setAt X false 0)).objs.size with
    | no => rfl
    | _ => have := Rb.lt (a := (s2.heap.push (setAt X false 0)).objs.size) (by rw [e]; intro h; cases h); rw [hH, hD] at this; exact absurd this (Nat.not_lt.mpr (Nat.le_succ D))
  change HRel X (W2.set (s2.heap.push (setAt X false 0)).objs.size .own) σ1 _ at R3
  change Le W2 (W2.set (s2.heap.push (setAt X false 0)).objs.size .own) at l23
  change h₁.Ns (s2.heap.push (setAt X false 0)).objs.size _ at hns₁
  change Heap.SameBut (s2.heap.push (setAt X false 0)).objs.size ((s2.heap.push (setAt X false 0)).push { cls := .type "dict", data := .dict #[] }) h₁ at hsb₁
  generalize hC : (s2.heap.push (setAt X false 0)).objs.size = C at *
  have hDC : D ≠ C := by lia
  obtain ⟨oC₀, _, _, hoC₀, _⟩ := id hns₁
  have R4 := R3.ownSet T (h' := h₁) hsb₁ (Map.set_self ..) hoC₀ (s2.toks + ([] : List (Str × Value)).length)
  generalize hW3 : W2.set C .own = W3 at *
  have keep : ∀ b o, s2.heap.get? b = some o → h₁.get? b = some o ∧ b ≠ C := fun b o e => by
    have hb : b ≠ C := by have := Heap.lt_size e; rw [hD] at this; rw [hH]; exact Nat.ne_of_lt (Nat.lt_succ_of_lt this)
    exact ⟨hsb₁.extBut b o hb (Heap.get?_push_of_some _ (Heap.get?_push_of_some _ e)), hb⟩
  have hl : ∀ b o, W1 b = .fro o → W3 b = .fro o := fun b o e => l23.fro _ _ (l12.fro _ _ (hideOwn_fro.mpr e))
  have hh : ∀ b o, W1 b = .hid o → W3 b = .hid o := fun b o e => l23.hid _ _ (l12.hid _ _ (hideOwn_hid e))
  have F4 : FOk W3 (compEnvC scope (closOf scope.names env.cells) C env) (compLoc scope ρ) h₁ := by
    refine F1.comp hsc (by rw [← hW3]; exact Map.set_self ..) hns₁ hl keep fun c o v ho hd hw => ?_
    rcases hw with e | ⟨o', v', e, hv'⟩
    · exact ⟨o, l23.hid _ _ (l12.hid _ _ (by unfold hideOwn; rw [e]; simp only [ho])), hd⟩
    · have := R1.hid e; rw [ho] at this; cases this
      exact ⟨o, hh _ _ e, hd⟩
  have lWh : Le (hideOwn Wb s2.heap) W3 := by rw [← hWb]; exact (Le.hideDrop.trans l12).trans l23
  have hWhD : hideOwn Wb s2.heap D = .no := by unfold hideOwn; rw [hDn]
  have hWhC : hideOwn Wb s2.heap C = .no := by unfold hideOwn; rw [hCn]
  have hWhit : hideOwn Wb s2.heap it = .no := by unfold hideOwn; rw [← hWb, Map.set_self]
  have C4 : SAcc X (hideOwn Wb s2.heap) W3 D false := ⟨hWhD, 0, l23.hid _ _ (by rw [← hW2]; exact Map.set_self ..)⟩
  have S4 : Src (hideOwn Wb s2.heap) W3 it xs := (S1.mono hl hh).base fun _ => hWhit
  have k0 := setLoop_ok T (scope := scope) (pos := pos) hok hi a lWh R4 F4 C4 S4 hne0 (h2 C)
  have k1 := codeAny_setStart ha k0 (S4.self R4 k0)
  refine codeAny_mono k1 fun r s5 h5 => ?_
  obtain ⟨rfl, W5, ρ5, σ5, l5, R5, F5, C5, q5⟩ := h5
  obtain ⟨ep, hW5D⟩ := C5.at'
  have hW5C : W5 C = .own := F5.ownL
  obtain ⟨m5, hm5, _⟩ := F5.ns
  obtain ⟨oC, esC, epC, hoC, hdC, _⟩ := id hm5
  have R6 := reslot T (x := .hid oC) R5 (a := C) (by intro o e; rw [hW5C] at e; cases e) (by intro c e; rw [hW5C] at e; cases e) (by rw [hW5C]; intro e; cases e) hoC rfl (by intro e; cases e)
  have l6 := l5.setHid (it := C) (x := .hid oC) hWhC
  have hW6D : (W5.set C (.hid oC)) D = .hid (setAt X true ep) := by rw [Map.set_ne hDC]; exact hW5D
  refine hq (backOwn Wb _) σ5 s5 D C oC ep (lWb.trans (Le.back l6)) (HRel.back T Rb l6 R6) (FOk.back Rb Fb l6 R6) (lWb.no _ hDn) ?_ (lWb.no _ hCn) ?_ (fun v e => by rw [hdC] at e; cases e) ⟨m5, hm5⟩ hDC q5
  · unfold backOwn
    rw [hDn]
    exact hW6D
  · unfold backOwn
    rw [hCn]
    show (W5.set C (.hid oC)) C = .hid oC
    rw [Map.set_self]
end
end Mine

end
section
open PySem PySem.W PyProof.Rows SeqAt
set_option Elab.async false
set_option linter.unusedVariables false
set_option maxRecDepth 100000
set_option maxHeartbeats 2000000
namespace Mine
section
variable {prog : Program} {w : World} {A : Around} {E : Value → Shared → Prop} {s : Shared} {D : Addr}
theorem unpack_set {ep : Nat} {Q : List Value → Shared → Prop} (hh : A.handled = none) (ho : s.heap.get? D = some (setObj #[(1, .bool true)] ep (tOne (!(w.params.followText "set-order")))))
    (hQ : ∀ h', (∀ b o, s.heap.get? b = some o → h'.get? b = some o) → Q [.bool true] { s with heap := h' }) : wpAny (model prog w) A (unpackItems (.ref D) 1 none) Q E s := by
  have hT : s.TypeIs (.ref D) "set" := ⟨_, ho, rfl⟩
  have hDz : D ≠ s.heap.objs.size := Nat.ne_of_lt (Heap.lt_size ho)
  unfold unpackItems
  refine wpAny_bind ?_
  · unfold notIterableAtAll
    refine wpAny_bind (wpAny_specialOf hT slot_set_iter.lookup ?_)
    refine wpAny_pure ?_
    simp only [Bool.false_eq_true, if_false]
    refine wpAny_bind (wpAny_holding (iter_set ho ?_))
    have ho1 : (s.heap.push (siObj D 0 0 ep)).get? D = some (setObj #[(1, .bool true)] ep (tOne (!(w.params.followText "set-order")))) := Heap.get?_push_of_some _ ho
    refine wpAny_bind (wpAny_holding ?_)
    show wpAny _ _ (pyNext (.ref s.heap.objs.size) >>= _) _ _ _
    refine wpAny_bind (si_first (s := { s with heap := s.heap.push (siObj D 0 0 ep) }) ho1 (Heap.get?_push_size _ rfl) fun h1 k hs1 hi1 hk => ?_)
    refine wpAny_bind (wpAny_holding (wpAny_pure (wpAny_pure ?_)))
    rw [if_neg (by simp)]
    have ho2 : h1.get? D = some (setObj #[(1, .bool true)] ep (tOne (!(w.params.followText "set-order")))) := (hs1.2 D hDz).trans ho1
    refine wpAny_bind (wpAny_holding (si_end (s := { s with heap := h1 }) hh ho2 hi1 hk fun h2 he2 => ?_))
    simp only [Option.isSome_none, Bool.false_eq_true, if_false]
    refine wpAny_pure (hQ h2 fun b o e => ?_)
    have hb : b ≠ s.heap.objs.size := Nat.ne_of_lt (Heap.lt_size e)
    exact he2 b o hb ((hs1.2 b hb).trans (Heap.get?_push_of_some _ e))
end
variable {X : Txt}
section
variable {k : Nat} {env : Env} {ρ : Loc} {σ : Sto}
/-- x, = {e for y in it}, where e is True for each -/
theorem T1.assignSet (T : X.Ok) {x : Str} {px tp pos cpos : Pos} {j : Nat} {elt : Expr} {g : Comprehension} {scope : Scope} {Q : Ctl → Loc → Sto → Prop} (hok : genOk g = true) (hi : g.ifs = []) (hsc : scopeOk env.kindOf scope = true) (hx : stores env x)
    (h : TI X k env g.iter ρ σ fun xs σ1 => xs ≠ [] ∧ ∀ C, TSet X k (compEnvC scope (closOf scope.names env.cells) C env) elt g xs (compLoc scope ρ) σ1 fun σ2 => Q .next (ρ.set x (.bool true)) σ2) :
    T1 X k env (.Assign [.Tuple [.Name x px] j tp] (.SetComp elt [g] scope cpos) pos) ρ σ Q := .mk fun A W s a R F => by
  have hgo := hok
  simp only [genOk, Bool.and_eq_true, beq_iff_eq] at hgo
  refine wpAny_Assign_stores ?_ rfl rfl
  have h1 : firstAsync [g] = false := by obtain ⟨tg, it, ifs, as⟩ := g; show (as != 0) = false; rw [show as = 0 from hgo.1.1]; rfl
  have h2 : firstIter [g] env = eval g.iter env := by obtain ⟨tg, it, ifs, as⟩ := g; rfl
  have e : eval (.SetComp elt [g] scope cpos) env = comprehension (.SetComp elt [g] scope cpos) scope env (firstIterPos [g] cpos) (newSet (.type "set")) false (eval g.iter env) := by
    show comprehension _ scope env _ (newSet (.type "set")) (firstAsync [g]) (firstIter [g] env) = _
    rw [h1, h2]
  rw [e]
  refine setComp_core T hok hi hsc h a R F (fun W' σ' s' D C oC ep l R' F' hDn hD hCn hC hcd hm hDC q => ?_) _
  obtain ⟨m, hm⟩ := hm
  refine ⟨m, hm, fun h' hs => ?_⟩
  obtain ⟨a1, a2, a3, a4⟩ := letGo_ok T l R' F' hCn hC hcd hs
  have hD2 : (W'.set C .no) D = .hid (setAt X true ep) := by rw [Map.set_ne hDC]; exact hD
  have hg := a2.hid hD2
  show wpAny _ A (PySem.assign (.Tuple [.Name x px] j tp) env (.ref D)) _ _ _
  rw [arm_assign_Tuple]
  refine wpAny_bind (wpAny_standAt ?_)
  unfold unpack
  show wpAny _ A (holding [.ref D] (unpackItems (.ref D) 1 none) >>= _) _ _ _
  refine wpAny_bind (wpAny_holding (unpack_set (s := { s' with heap := h' }) a.handled hg fun h2 keep => ?_))
  have R3 := a2.ext T keep s'.toks
  have F3 := FOk.ext a2 a3 keep
  show wpAny _ A (holding [] (PySem.assign (.Name x px) env (.bool true)) >>= _) _ _ _
  refine wpAny_bind (wpAny_holding (wpAny_assign_Name ?_))
  refine store_ok T (p := .bool true) R3 F3 rfl hx fun s4 R4 F4 => ?_
  exact wpAny_pure ⟨_, .next, _, σ', a1, R4, F4, rfl, q⟩
end
end Mine

end
section
open PySem PySem.W PyProof.Rows SeqAt
set_option Elab.async false
set_option linter.unusedVariables false
set_option maxRecDepth 100000
set_option maxHeartbeats 2000000
namespace Mine
variable {X : Txt} {k : Nat} {σ : Sto} {Q : PV → Sto → Prop}
theorem pv_eqv_refl {n : Nat} {p : PV} (h : PV.flat n p = true) : PV.eqv p p = true := eqv_refl _ (flat_lay n p h).1
theorem vrels_true {W : Map} : ∀ {xs : List PV} {vs : List Value}, VRels W xs vs → (∀ p ∈ xs, p = PV.bool true) → ∀ (i : Nat) (v : Value), vs[i]? = some v → v = Value.bool true
  | [], _, h, _, i, v, e => by cases h; simp at e
  | x :: xs, _, ⟨u, us, rfl, r, rs⟩, hx, 0, v, e => by
    have := hx x List.mem_cons_self
    subst this
    simp at e; rw [← e]; exact r
  | x :: xs, _, ⟨u, us, rfl, r, rs⟩, hx, i + 1, v, e => vrels_true rs (fun p hp => hx p (List.mem_cons_of_mem _ hp)) i v (by simpa using e)
/-- all() of truths -/
theorem TOp.allT (T : X.Ok) {xs : List PV} (hx : ∀ p ∈ xs, p = PV.bool true) (h : Q (.bool true) σ) : TOp X k (fun vs => PySem.call (.builtin "all") vs) [.lst xs] σ Q := .of1 fun A W s v a R r => by
  obtain ⟨l, us, n, rfl, hW, hz, q⟩ := r
  have hg := R.fro hW
  have hL : s.heap.IsList l us.toArray := ⟨_, hg, rfl, n, rfl⟩
  have hlt : l < s.heap.objs.size := Heap.lt_size hg
  refine call_all_walk (wpAny_pyIter_list hL ?_)
  refine ⟨s.heap.objs.size, _, _, _, _, _, fun _ => true, rfl, Walks.list (show A.in1.handled = none from a.handled) s.heap.objs.size l (Nat.ne_of_lt hlt) us.toArray, ⟨⟨_, Heap.get?_push_size _ rfl, rfl, rfl⟩, hL.push _⟩, ?_, ?_⟩
  · intro i v s' Q' E' hv hq
    have := vrels_true q hx i v (by simpa using hv)
    subst this
    exact wpAny_truthy_bool hq
  · intro h' tk hk
    have e : (List.range us.toArray.size).all (fun _ => true) = true := by simp
    rw [e]
    refine HPost.here (p := .bool true) (R.ext T (fun b o e => ?_) tk) rfl h
    refine hk b o ?_ (Heap.get?_push_of_some _ e)
    simp only [List.mem_cons, List.not_mem_nil, or_false]
    exact Nat.ne_of_lt (Heap.lt_size e)
end Mine

end
section
set_option compiler.extract_closed false
open PySem PySem.W PyProof.Rows
set_option Elab.async false
set_option linter.unusedVariables false
set_option maxRecDepth 100000
set_option maxHeartbeats 4000000
namespace Mine

noncomputable def fdOf (o : Option Obj) : FuncData := match o with
  | some ⟨_, _, .func fd, _⟩ => fd
  | _ => default
noncomputable def bodyOf (fd : FuncData) : List Stmt := match fd.body with
  | .stmts b => b
  | _ => []

noncomputable def K2 (P : Params) : Frag := hd.heap_1 P
/-- the run at hand -/
structure Good (X : Txt) : Prop where
  ok : X.Ok
  K : X.K = K2 X.w.params
  bi : ∀ x, x ≠ ("__name__" : Str) → X.mb x = bootBuiltins x
  acc : X.accCls = 101
  tabs : X.tabs = [63, 70]
  tabP : X.tabP = fun _ _ vs => TriplesOk vs.toList
  prog : X.prog = PySem.Challenge.rw_il0074_02.row.toRowW.prog
  mod : GenMod X

theorem Good.glob {X : Txt} (G : Good X) {n : Str} {v : Value} (e : nsIn (K2 X.w.params) mainGlobals n = some (some v)) : X.glob n = some v := by
  unfold Txt.glob; rw [mg_of G.ok.inK G.ok.g (by rw [G.K]; exact e)]
theorem Good.globB {X : Txt} (G : Good X) {n : Str} {v : Value} (e : nsIn (K2 X.w.params) mainGlobals n = some none) (hv : bootBuiltins n = some v) (hn : n ≠ "__name__") : X.glob n = some v := by
  unfold Txt.glob; rw [mg_none_of G.ok.inK G.ok.g (by rw [G.K]; exact e)]; exact (G.bi n hn).trans hv
theorem Good.keep {X : Txt} (G : Good X) {a : Addr} (h : keepIn (K2 X.w.params) (.ref a) = true) : plainKeep X (.ref a) = true := by unfold plainKeep; rw [G.K]; exact h

noncomputable def fdFspath (P : Params) : FuncData := fdOf ((K2 P).lookup 178)
theorem isFspath (P : Params) : (K2 P).lookup 178 = some ⟨.type "function", none, .func (fdFspath P), #[]⟩ := by kernel_rfl
theorem defFspath {X : Txt} (G : Good X) : DefAt X 178 [Str.ofString "path"] (bodyOf (fdFspath X.w.params)) (fdFspath X.w.params).scope := by
  refine ⟨⟨_, fdFspath X.w.params, by rw [G.K]; exact isFspath _, rfl, by kernel_rfl, rfl, by kernel_rfl, by kernel_rfl, by kernel_rfl, by rw [G.K]; kernel_rfl, ?_⟩, ?_, by kernel_rfl, by kernel_rfl, by kernel_rfl⟩
  · exact all1 (fun a => by kernel_rfl)
  · exact kinds_of (by kernel_rfl)

noncomputable def fdGetSep (P : Params) : FuncData := fdOf ((K2 P).lookup 192)
theorem isGetSep (P : Params) : (K2 P).lookup 192 = some ⟨.type "function", none, .func (fdGetSep P), #[]⟩ := by kernel_rfl
theorem defGetSep {X : Txt} (G : Good X) : DefAt X 192 [Str.ofString "path"] (bodyOf (fdGetSep X.w.params)) (fdGetSep X.w.params).scope := by
  refine ⟨⟨_, fdGetSep X.w.params, by rw [G.K]; exact isGetSep _, rfl, by kernel_rfl, rfl, by kernel_rfl, by kernel_rfl, by kernel_rfl, by rw [G.K]; kernel_rfl, ?_⟩, ?_, by kernel_rfl, by kernel_rfl, by kernel_rfl⟩
  · exact all1 (fun a => by kernel_rfl)
  · exact kinds_of (by kernel_rfl)

noncomputable def fdDirname (P : Params) : FuncData := fdOf ((K2 P).lookup 206)
theorem isDirname (P : Params) : (K2 P).lookup 206 = some ⟨.type "function", none, .func (fdDirname P), #[]⟩ := by kernel_rfl
theorem defDirname {X : Txt} (G : Good X) : DefAt X 206 [Str.ofString "p"] (bodyOf (fdDirname X.w.params)) (fdDirname X.w.params).scope := by
  refine ⟨⟨_, fdDirname X.w.params, by rw [G.K]; exact isDirname _, rfl, by kernel_rfl, rfl, by kernel_rfl, by kernel_rfl, by kernel_rfl, by rw [G.K]; kernel_rfl, ?_⟩, ?_, by kernel_rfl, by kernel_rfl, by kernel_rfl⟩
  · exact all1 (fun a => by kernel_rfl)
  · exact kinds_of (by kernel_rfl)

noncomputable def fdCommonpath (P : Params) : FuncData := fdOf ((K2 P).lookup 211)
theorem isCommonpath (P : Params) : (K2 P).lookup 211 = some ⟨.type "function", none, .func (fdCommonpath P), #[]⟩ := by kernel_rfl
theorem defCommonpath {X : Txt} (G : Good X) : DefAt X 211 [Str.ofString "paths"] (bodyOf (fdCommonpath X.w.params)) (fdCommonpath X.w.params).scope := by
  refine ⟨⟨_, fdCommonpath X.w.params, by rw [G.K]; exact isCommonpath _, rfl, by kernel_rfl, rfl, by kernel_rfl, by kernel_rfl, by kernel_rfl, by rw [G.K]; kernel_rfl, ?_⟩, ?_, by kernel_rfl, by kernel_rfl, by kernel_rfl⟩
  · exact all1 (fun a => by kernel_rfl)
  · exact kinds_of (by kernel_rfl)

noncomputable def fdIfmt (P : Params) : FuncData := fdOf ((K2 P).lookup 218)
theorem isIfmt (P : Params) : (K2 P).lookup 218 = some ⟨.type "function", none, .func (fdIfmt P), #[]⟩ := by kernel_rfl
theorem defIfmt {X : Txt} (G : Good X) : DefAt X 218 [Str.ofString "mode"] (bodyOf (fdIfmt X.w.params)) (fdIfmt X.w.params).scope := by
  refine ⟨⟨_, fdIfmt X.w.params, by rw [G.K]; exact isIfmt _, rfl, by kernel_rfl, rfl, by kernel_rfl, by kernel_rfl, by kernel_rfl, by rw [G.K]; kernel_rfl, ?_⟩, ?_, by kernel_rfl, by kernel_rfl, by kernel_rfl⟩
  · exact all1 (fun a => by kernel_rfl)
  · exact kinds_of (by kernel_rfl)

noncomputable def fdFilemode (P : Params) : FuncData := fdOf ((K2 P).lookup 258)
theorem isFilemode (P : Params) : (K2 P).lookup 258 = some ⟨.type "function", none, .func (fdFilemode P), #[]⟩ := by kernel_rfl
theorem defFilemode {X : Txt} (G : Good X) : DefAt X 258 [Str.ofString "mode"] (bodyOf (fdFilemode X.w.params)) (fdFilemode X.w.params).scope := by
  refine ⟨⟨_, fdFilemode X.w.params, by rw [G.K]; exact isFilemode _, rfl, by kernel_rfl, rfl, by kernel_rfl, by kernel_rfl, by kernel_rfl, by rw [G.K]; kernel_rfl, ?_⟩, ?_, by kernel_rfl, by kernel_rfl, by kernel_rfl⟩
  · exact all1 (fun a => by kernel_rfl)
  · exact kinds_of (by kernel_rfl)

noncomputable def fdModes (P : Params) : FuncData := fdOf ((K2 P).lookup 263)
theorem isModes (P : Params) : (K2 P).lookup 263 = some ⟨.type "function", none, .func (fdModes P), #[]⟩ := by kernel_rfl
theorem defModes {X : Txt} (G : Good X) : DefAt X 263 [Str.ofString "script"] (bodyOf (fdModes X.w.params)) (fdModes X.w.params).scope := by
  refine ⟨⟨_, fdModes X.w.params, by rw [G.K]; exact isModes _, rfl, by kernel_rfl, rfl, by kernel_rfl, by kernel_rfl, by kernel_rfl, by rw [G.K]; kernel_rfl, ?_⟩, ?_, by kernel_rfl, by kernel_rfl, by kernel_rfl⟩
  · exact all1 (fun a => by kernel_rfl)
  · exact kinds_of (by kernel_rfl)

noncomputable def fdRead (P : Params) : FuncData := fdOf ((K2 P).lookup 270)
theorem isRead (P : Params) : (K2 P).lookup 270 = some ⟨.type "function", none, .func (fdRead P), #[]⟩ := by kernel_rfl
theorem defRead {X : Txt} (G : Good X) : DefAt X 270 [Str.ofString "pieces"] (bodyOf (fdRead X.w.params)) (fdRead X.w.params).scope := by
  refine ⟨⟨_, fdRead X.w.params, by rw [G.K]; exact isRead _, rfl, by kernel_rfl, rfl, by kernel_rfl, by kernel_rfl, by kernel_rfl, by rw [G.K]; kernel_rfl, ?_⟩, ?_, by kernel_rfl, by kernel_rfl, by kernel_rfl⟩
  · exact all1 (fun a => by kernel_rfl)
  · exact kinds_of (by kernel_rfl)

noncomputable def fdTurned (P : Params) : FuncData := fdOf ((K2 P).lookup 277)
theorem isTurned (P : Params) : (K2 P).lookup 277 = some ⟨.type "function", none, .func (fdTurned P), #[]⟩ := by kernel_rfl
theorem defTurned {X : Txt} (G : Good X) : DefAt X 277 [Str.ofString "modes"] (bodyOf (fdTurned X.w.params)) (fdTurned X.w.params).scope := by
  refine ⟨⟨_, fdTurned X.w.params, by rw [G.K]; exact isTurned _, rfl, by kernel_rfl, rfl, by kernel_rfl, by kernel_rfl, by kernel_rfl, by rw [G.K]; kernel_rfl, ?_⟩, ?_, by kernel_rfl, by kernel_rfl, by kernel_rfl⟩
  · exact all1 (fun a => by kernel_rfl)
  · exact kinds_of (by kernel_rfl)

noncomputable def fdHolds (P : Params) : FuncData := fdOf ((K2 P).lookup 282)
theorem isHolds (P : Params) : (K2 P).lookup 282 = some ⟨.type "function", none, .func (fdHolds P), #[]⟩ := by kernel_rfl
theorem defHolds {X : Txt} (G : Good X) : DefAt X 282 [Str.ofString "paths", Str.ofString "counts"] (bodyOf (fdHolds X.w.params)) (fdHolds X.w.params).scope := by
  refine ⟨⟨_, fdHolds X.w.params, by rw [G.K]; exact isHolds _, rfl, by kernel_rfl, rfl, by kernel_rfl, by kernel_rfl, by kernel_rfl, by rw [G.K]; kernel_rfl, ?_⟩, ?_, by kernel_rfl, by kernel_rfl, by kernel_rfl⟩
  · exact all2 (fun a b => by kernel_rfl)
  · exact kinds_of (by kernel_rfl)

noncomputable def fdRow (P : Params) : FuncData := fdOf ((K2 P).lookup 289)
theorem isRow (P : Params) : (K2 P).lookup 289 = some ⟨.type "function", none, .func (fdRow P), #[]⟩ := by kernel_rfl
theorem defRow {X : Txt} (G : Good X) : DefAt X 289 [Str.ofString "mode"] (bodyOf (fdRow X.w.params)) (fdRow X.w.params).scope := by
  refine ⟨⟨_, fdRow X.w.params, by rw [G.K]; exact isRow _, rfl, by kernel_rfl, rfl, by kernel_rfl, by kernel_rfl, by kernel_rfl, by rw [G.K]; kernel_rfl, ?_⟩, ?_, by kernel_rfl, by kernel_rfl, by kernel_rfl⟩
  · exact all1 (fun a => by kernel_rfl)
  · exact kinds_of (by kernel_rfl)

noncomputable def fdCount (P : Params) : FuncData := fdOf ((K2 P).lookup 294)
theorem isCount (P : Params) : (K2 P).lookup 294 = some ⟨.type "function", none, .func (fdCount P), #[]⟩ := by kernel_rfl
theorem defCount {X : Txt} (G : Good X) : DefAt X 294 [Str.ofString "mode"] (bodyOf (fdCount X.w.params)) (fdCount X.w.params).scope := by
  refine ⟨⟨_, fdCount X.w.params, by rw [G.K]; exact isCount _, rfl, by kernel_rfl, rfl, by kernel_rfl, by kernel_rfl, by kernel_rfl, by rw [G.K]; kernel_rfl, ?_⟩, ?_, by kernel_rfl, by kernel_rfl, by kernel_rfl⟩
  · exact all1 (fun a => by kernel_rfl)
  · exact kinds_of (by kernel_rfl)

noncomputable def fdAbove (P : Params) : FuncData := fdOf ((K2 P).lookup 301)
theorem isAbove (P : Params) : (K2 P).lookup 301 = some ⟨.type "function", none, .func (fdAbove P), #[]⟩ := by kernel_rfl
theorem defAbove {X : Txt} (G : Good X) : DefAt X 301 [Str.ofString "i", Str.ofString "start", Str.ofString "counts"] (bodyOf (fdAbove X.w.params)) (fdAbove X.w.params).scope := by
  refine ⟨⟨_, fdAbove X.w.params, by rw [G.K]; exact isAbove _, rfl, by kernel_rfl, rfl, by kernel_rfl, by kernel_rfl, by kernel_rfl, by rw [G.K]; kernel_rfl, ?_⟩, ?_, by kernel_rfl, by kernel_rfl, by kernel_rfl⟩
  · exact all3 (fun a b c => by kernel_rfl)
  · exact kinds_of (by kernel_rfl)

noncomputable def fdWanted (P : Params) : FuncData := fdOf ((K2 P).lookup 306)
theorem isWanted (P : Params) : (K2 P).lookup 306 = some ⟨.type "function", none, .func (fdWanted P), #[]⟩ := by kernel_rfl
theorem defWanted {X : Txt} (G : Good X) : DefAt X 306 [Str.ofString "turn", Str.ofString "counts"] (bodyOf (fdWanted X.w.params)) (fdWanted X.w.params).scope := by
  refine ⟨⟨_, fdWanted X.w.params, by rw [G.K]; exact isWanted _, rfl, by kernel_rfl, rfl, by kernel_rfl, by kernel_rfl, by kernel_rfl, by rw [G.K]; kernel_rfl, ?_⟩, ?_, by kernel_rfl, by kernel_rfl, by kernel_rfl⟩
  · exact all2 (fun a b => by kernel_rfl)
  · exact kinds_of (by kernel_rfl)

noncomputable def fdForest (P : Params) : FuncData := fdOf ((K2 P).lookup 313)
theorem isForest (P : Params) : (K2 P).lookup 313 = some ⟨.type "function", none, .func (fdForest P), #[]⟩ := by kernel_rfl
theorem defForest {X : Txt} (G : Good X) : DefAt X 313 [Str.ofString "counts"] (bodyOf (fdForest X.w.params)) (fdForest X.w.params).scope := by
  refine ⟨⟨_, fdForest X.w.params, by rw [G.K]; exact isForest _, rfl, by kernel_rfl, rfl, by kernel_rfl, by kernel_rfl, by kernel_rfl, by rw [G.K]; kernel_rfl, ?_⟩, ?_, by kernel_rfl, by kernel_rfl, by kernel_rfl⟩
  · exact all1 (fun a => by kernel_rfl)
  · exact kinds_of (by kernel_rfl)

noncomputable def fdLaw (P : Params) : FuncData := fdOf ((K2 P).lookup 318)
theorem isLaw (P : Params) : (K2 P).lookup 318 = some ⟨.type "function", none, .func (fdLaw P), #[]⟩ := by kernel_rfl
theorem defLaw {X : Txt} (G : Good X) : DefAt X 318 [Str.ofString "script"] (bodyOf (fdLaw X.w.params)) (fdLaw X.w.params).scope := by
  refine ⟨⟨_, fdLaw X.w.params, by rw [G.K]; exact isLaw _, rfl, by kernel_rfl, rfl, by kernel_rfl, by kernel_rfl, by kernel_rfl, by rw [G.K]; kernel_rfl, ?_⟩, ?_, by kernel_rfl, by kernel_rfl, by kernel_rfl⟩
  · exact all1 (fun a => by kernel_rfl)
  · exact kinds_of (by kernel_rfl)
theorem g_fspath {X : Txt} (G : Good X) : X.glob (Str.ofString "fspath") = some (.ref 178) := G.glob (by kernel_rfl)
theorem k_fspath {X : Txt} (G : Good X) : plainKeep X (.ref 178) = true := G.keep (by kernel_rfl)
theorem g_getsep {X : Txt} (G : Good X) : X.glob (Str.ofString "_get_sep") = some (.ref 192) := G.glob (by kernel_rfl)
theorem k_getsep {X : Txt} (G : Good X) : plainKeep X (.ref 192) = true := G.keep (by kernel_rfl)
theorem g_join {X : Txt} (G : Good X) : X.glob (Str.ofString "join") = some (.ref 199) := G.glob (by kernel_rfl)
theorem k_join {X : Txt} (G : Good X) : plainKeep X (.ref 199) = true := G.keep (by kernel_rfl)
theorem g_dirname {X : Txt} (G : Good X) : X.glob (Str.ofString "dirname") = some (.ref 206) := G.glob (by kernel_rfl)
theorem k_dirname {X : Txt} (G : Good X) : plainKeep X (.ref 206) = true := G.keep (by kernel_rfl)
theorem g_commonpath {X : Txt} (G : Good X) : X.glob (Str.ofString "commonpath") = some (.ref 211) := G.glob (by kernel_rfl)
theorem k_commonpath {X : Txt} (G : Good X) : plainKeep X (.ref 211) = true := G.keep (by kernel_rfl)
theorem g_ifmt {X : Txt} (G : Good X) : X.glob (Str.ofString "S_IFMT") = some (.ref 218) := G.glob (by kernel_rfl)
theorem k_ifmt {X : Txt} (G : Good X) : plainKeep X (.ref 218) = true := G.keep (by kernel_rfl)
theorem g_filemode {X : Txt} (G : Good X) : X.glob (Str.ofString "filemode") = some (.ref 258) := G.glob (by kernel_rfl)
theorem k_filemode {X : Txt} (G : Good X) : plainKeep X (.ref 258) = true := G.keep (by kernel_rfl)
theorem g_modes {X : Txt} (G : Good X) : X.glob (Str.ofString "_law_modes") = some (.ref 263) := G.glob (by kernel_rfl)
theorem k_modes {X : Txt} (G : Good X) : plainKeep X (.ref 263) = true := G.keep (by kernel_rfl)
theorem g_read {X : Txt} (G : Good X) : X.glob (Str.ofString "_law_read") = some (.ref 270) := G.glob (by kernel_rfl)
theorem k_read {X : Txt} (G : Good X) : plainKeep X (.ref 270) = true := G.keep (by kernel_rfl)
theorem g_turned {X : Txt} (G : Good X) : X.glob (Str.ofString "_law_turned") = some (.ref 277) := G.glob (by kernel_rfl)
theorem k_turned {X : Txt} (G : Good X) : plainKeep X (.ref 277) = true := G.keep (by kernel_rfl)
theorem g_holds {X : Txt} (G : Good X) : X.glob (Str.ofString "_law_holds") = some (.ref 282) := G.glob (by kernel_rfl)
theorem k_holds {X : Txt} (G : Good X) : plainKeep X (.ref 282) = true := G.keep (by kernel_rfl)
theorem g_row {X : Txt} (G : Good X) : X.glob (Str.ofString "_law_row") = some (.ref 289) := G.glob (by kernel_rfl)
theorem k_row {X : Txt} (G : Good X) : plainKeep X (.ref 289) = true := G.keep (by kernel_rfl)
theorem g_count {X : Txt} (G : Good X) : X.glob (Str.ofString "_law_count") = some (.ref 294) := G.glob (by kernel_rfl)
theorem k_count {X : Txt} (G : Good X) : plainKeep X (.ref 294) = true := G.keep (by kernel_rfl)
theorem g_above {X : Txt} (G : Good X) : X.glob (Str.ofString "_law_above") = some (.ref 301) := G.glob (by kernel_rfl)
theorem k_above {X : Txt} (G : Good X) : plainKeep X (.ref 301) = true := G.keep (by kernel_rfl)
theorem g_wanted {X : Txt} (G : Good X) : X.glob (Str.ofString "_law_wanted") = some (.ref 306) := G.glob (by kernel_rfl)
theorem k_wanted {X : Txt} (G : Good X) : plainKeep X (.ref 306) = true := G.keep (by kernel_rfl)
theorem g_forest {X : Txt} (G : Good X) : X.glob (Str.ofString "_law_forest") = some (.ref 313) := G.glob (by kernel_rfl)
theorem k_forest {X : Txt} (G : Good X) : plainKeep X (.ref 313) = true := G.keep (by kernel_rfl)
theorem b_range {X : Txt} (G : Good X) : X.glob (Str.ofString "range") = some (.type "range") := G.globB (by kernel_rfl) (by kernel_rfl) (by decide)
theorem b_len {X : Txt} (G : Good X) : X.glob (Str.ofString "len") = some (.builtin "len") := G.globB (by kernel_rfl) (by kernel_rfl) (by decide)
theorem b_sum {X : Txt} (G : Good X) : X.glob (Str.ofString "sum") = some (.builtin "sum") := G.globB (by kernel_rfl) (by kernel_rfl) (by decide)
theorem b_max {X : Txt} (G : Good X) : X.glob (Str.ofString "max") = some (.builtin "max") := G.globB (by kernel_rfl) (by kernel_rfl) (by decide)
theorem b_min {X : Txt} (G : Good X) : X.glob (Str.ofString "min") = some (.builtin "min") := G.globB (by kernel_rfl) (by kernel_rfl) (by decide)
theorem b_sorted {X : Txt} (G : Good X) : X.glob (Str.ofString "sorted") = some (.builtin "sorted") := G.globB (by kernel_rfl) (by kernel_rfl) (by decide)
theorem b_all {X : Txt} (G : Good X) : X.glob (Str.ofString "all") = some (.builtin "all") := G.globB (by kernel_rfl) (by kernel_rfl) (by decide)
theorem b_isinstance {X : Txt} (G : Good X) : X.glob (Str.ofString "isinstance") = some (.builtin "isinstance") := G.globB (by kernel_rfl) (by kernel_rfl) (by decide)
theorem b_issubclass {X : Txt} (G : Good X) : X.glob (Str.ofString "issubclass") = some (.builtin "issubclass") := G.globB (by kernel_rfl) (by kernel_rfl) (by decide)
theorem b_type {X : Txt} (G : Good X) : X.glob (Str.ofString "type") = some (.type "type") := G.globB (by kernel_rfl) (by kernel_rfl) (by decide)
theorem b_str {X : Txt} (G : Good X) : X.glob (Str.ofString "str") = some (.type "str") := G.globB (by kernel_rfl) (by kernel_rfl) (by decide)
theorem b_bytes {X : Txt} (G : Good X) : X.glob (Str.ofString "bytes") = some (.type "bytes") := G.globB (by kernel_rfl) (by kernel_rfl) (by decide)
theorem b_tuple {X : Txt} (G : Good X) : X.glob (Str.ofString "tuple") = some (.type "tuple") := G.globB (by kernel_rfl) (by kernel_rfl) (by decide)
theorem b_map {X : Txt} (G : Good X) : X.glob (Str.ofString "map") = some (.type "map") := G.globB (by kernel_rfl) (by kernel_rfl) (by decide)
theorem b_enumerate {X : Txt} (G : Good X) : X.glob (Str.ofString "enumerate") = some (.type "enumerate") := G.globB (by kernel_rfl) (by kernel_rfl) (by decide)
theorem b_super {X : Txt} (G : Good X) : X.glob (Str.ofString "super") = some (.type "super") := G.globB (by kernel_rfl) (by kernel_rfl) (by decide)

end Mine
end
section
set_option compiler.extract_closed false
open PySem PySem.W PyProof.Rows
set_option Elab.async false
set_option linter.unusedVariables false
set_option maxRecDepth 100000
set_option maxHeartbeats 4000000
namespace Mine
local macro_rules | `(tactic| wtm_at "pvl") => `(tactic| first | with_reducible exact Loc.hit | with_reducible assumption | (refine Eq.trans (Loc.skip (by decide)) ?_; wtm_at "pvl") | (refine Eq.trans (Loc.inComp (by eq_refl)) ?_; wtm_at "pvl") | exact Loc.hit)
local macro_rules | `(tactic| wtm_at "pvc") => `(tactic| with_reducible first | assumption | exact s2a (by assumption) | exact s2b | exact Sto.hit)
local macro_rules | `(tactic| wtm_at "pvr") => `(tactic| first | exact .inl rfl | exact .inr rfl)
local macro_rules | `(tactic| wtm_at "pvo") => `(tactic| (refine TOp.id ?_; with_reducible first
  | refine TOp.addI ?_ | refine TOp.powI (by decide) (by decide) (by decide) ?_ | refine TOp.subI ?_ | refine TOp.iaddI ?_ | refine TOp.modP (by decide) ?_ | refine TOp.divP (by decide) (by decide) ?_ | refine TOp.andI ?_
  | refine TOp.eqI ?_ | refine TOp.neI ?_ | refine TOp.ltI ?_ | refine TOp.leI ?_ | refine TOp.gtI ?_ | refine TOp.geI ?_
  | refine TOp.eqS ?_ | refine TOp.neS ?_ | refine TOp.lenS ?_ | refine TOp.lenL ?_ | refine TOp.count ?_ | refine TOp.rfind ?_ | refine TOp.startswith ?_ | refine TOp.endswith ?_ | refine TOp.rstrip ?_ | refine TOp.typeS ?_ | refine TOp.isinstS ?_ | refine TOp.isinstB ?_ | refine TOp.issubS (by eq_refl) (by eq_refl) ?_))
local macro_rules | `(tactic| wtm_at "pvm") => `(tactic| (refine TE.id ?_; (with_reducible first | refine TE.m_str_join (by assumption) ?_ ?_ ?_ ?_ ?_ | refine TE.m_str_count (by assumption) ?_ ?_ ?_ ?_ ?_ | refine TE.m_str_rfind (by assumption) ?_ ?_ ?_ ?_ ?_ | refine TE.m_str_startswith (by assumption) ?_ ?_ ?_ ?_ ?_ | refine TE.m_str_endswith (by assumption) ?_ ?_ ?_ ?_ ?_ | refine TE.m_str_rstrip (by assumption) ?_ ?_ ?_ ?_ ?_ | refine TE.m_str_split (by assumption) ?_ ?_ ?_ ?_ ?_); any_goals eq_refl))
local macro_rules | `(tactic| wtm_at "pvx") => `(tactic| first
  | (refine Br.id ?_; with_reducible first | refine Br.yes ?_ | refine Br.not ?_)
  | refine TE.int ?_
  | refine TE.str (by decide) ?_
  | refine TE.bool ?_
  | refine TE.loc (by assumption) (by eq_refl) (by wtm_at "pvl") (by eq_refl) ?_
  | refine TE.cell (by assumption) (by eq_refl) (by wtm_at "pvl") (by eq_refl) ?_
  | refine TE.glob (by assumption) (by eq_refl) (by wtm_at "pvg") (by eq_refl) ?_
  | refine TE.bin (by assumption) ?_
  | refine TE.cmp (by assumption) (by eq_refl) ?_
  | refine TE.subP (by assumption) (by wtm_at "pvr") (by wtm_at "pvl") (by eq_refl) ?_
  | refine TE.sub (by assumption) ?_
  | refine TE.slice (by assumption) ?_
  | refine TE.ifStr (by decide) (by decide) ?_
  | refine TE.ifExp ?_
  | refine TE.neg ?_
  | refine TE.call (by assumption) (by eq_refl) (by wtm_at "pvg") (by eq_refl) (by wtm_at "pvk") (by eq_refl) ?_
  | refine TE.listC (by assumption) (by eq_refl) (by eq_refl) ?_
  | refine TE.lst (by assumption) (by eq_refl) ?_
  | refine TE.tup (by assumption) (by eq_refl) (by decide) ?_
  | refine TT.cmp (by assumption) (by eq_refl) ?_
  | refine TT.not ?_
  | refine TT.and ?_
  | refine TT.or ?_
  | wtm_at "pvo"
  | wtm_at "pvm"
  | refine And.intro HasT.str ?_
  | refine And.intro HasT.lst ?_
  | refine Exists.intro _ (And.intro (by eq_refl) ?_)
  | refine And.intro (len_ok (by eq_refl)) ?_
  | refine TT.val (by assumption) (by eq_refl) ?_
  | refine TI.up1 (by assumption) ⟨by eq_refl, by wtm_at "pvg", by eq_refl⟩ (by eq_refl) ?_
  | refine TI.up2 (by assumption) ⟨by eq_refl, by wtm_at "pvg", by eq_refl⟩ (by eq_refl) ?_
  | refine TI.down3 (by assumption) ⟨by eq_refl, by wtm_at "pvg", by eq_refl⟩ (by eq_refl) ?_
  | refine TI.val (by assumption) ?_)
local macro_rules | `(tactic| wtm_at "pvs") => `(tactic| first
  | refine TS.cons ?_
  | refine TS.nil ?_
  | refine T1.assign (by assumption) (by eq_refl) (by eq_refl) ?_
  | refine T1.assignC (by assumption) (by eq_refl) (by eq_refl) (.inl rfl) ?_
  | refine T1.assignC (by assumption) (by eq_refl) (by eq_refl) (.inr ⟨rfl, by assumption⟩) ?_
  | refine TAsg.name (by assumption) (.inl rfl) ?_
  | refine TAsg.name (by assumption) (.inr ⟨rfl, by assumption⟩) ?_
  | refine TAsg.tuple (by assumption) (by eq_refl) (by eq_refl) ?_
  | refine T1.append (by assumption) (by wtm_at "pvr") (by wtm_at "pvl") (by eq_refl) (by eq_refl) (by eq_refl) (by eq_refl) (by wtm_at "pvc") ?_
  | refine T1.expr (by assumption) (by eq_refl) ?_
  | refine T1.ret ?_
  | refine T1.if' ?_
  | refine T1.brk ?_
  | refine T1.try' ?_
  | refine T1.aug (by assumption) (.inl rfl) (by wtm_at "pvl") ?_
  | refine T1.aug (by assumption) (.inr ⟨rfl, by assumption⟩) (by wtm_at "pvl") ?_
  | refine T1.pass ?_
  | refine T1.for' (by assumption) (by eq_refl) (by eq_refl) ?_
  | wtm_at "pvx")
local macro_rules | `(tactic| wtm_at "pvg") => `(tactic| with_reducible first
  | exact g_fspath (by assumption)
  | exact g_getsep (by assumption)
  | exact g_join (by assumption)
  | exact g_dirname (by assumption)
  | exact g_commonpath (by assumption)
  | exact g_ifmt (by assumption)
  | exact g_filemode (by assumption)
  | exact g_modes (by assumption)
  | exact g_read (by assumption)
  | exact g_turned (by assumption)
  | exact g_holds (by assumption)
  | exact g_row (by assumption)
  | exact g_count (by assumption)
  | exact g_above (by assumption)
  | exact g_wanted (by assumption)
  | exact g_forest (by assumption)
  | exact b_range (by assumption)
  | exact b_len (by assumption)
  | exact b_sum (by assumption)
  | exact b_max (by assumption)
  | exact b_min (by assumption)
  | exact b_sorted (by assumption)
  | exact b_all (by assumption)
  | exact b_isinstance (by assumption)
  | exact b_issubclass (by assumption)
  | exact b_type (by assumption)
  | exact b_str (by assumption)
  | exact b_bytes (by assumption)
  | exact b_tuple (by assumption)
  | exact b_map (by assumption)
  | exact b_enumerate (by assumption)
  | exact b_super (by assumption))
local macro_rules | `(tactic| wtm_at "pvk") => `(tactic| first | rfl | with_reducible first
  | exact k_fspath (by assumption)
  | exact k_getsep (by assumption)
  | exact k_join (by assumption)
  | exact k_dirname (by assumption)
  | exact k_commonpath (by assumption)
  | exact k_ifmt (by assumption)
  | exact k_filemode (by assumption)
  | exact k_modes (by assumption)
  | exact k_read (by assumption)
  | exact k_turned (by assumption)
  | exact k_holds (by assumption)
  | exact k_row (by assumption)
  | exact k_count (by assumption)
  | exact k_above (by assumption)
  | exact k_wanted (by assumption)
  | exact k_forest (by assumption))

noncomputable def fmInit (P : Params) : FuncData := fdOf ((K2 P).lookup 38)
theorem ismInit (P : Params) : (K2 P).lookup 38 = some ⟨.type "function", none, .func (fmInit P), #[]⟩ := by kernel_rfl
theorem atInit {X : Txt} (G : Good X) : FAt X 38 (fmInit X.w.params) [Str.ofString "self", Str.ofString "initial_size"] (bodyOf (fmInit X.w.params)) := by
  refine ⟨⟨_, by rw [G.K]; exact ismInit _, rfl⟩, by kernel_rfl, by kernel_rfl, by kernel_rfl, by rw [G.K]; kernel_rfl, Nat.le_of_ble_eq_true (by kernel_rfl), ?_, ?_, by kernel_rfl, by kernel_rfl, by kernel_rfl⟩
  · intro x hx
    simp only [List.mem_cons, List.not_mem_nil, or_false] at hx
    rcases hx with rfl | rfl <;> kernel_rfl
  · have e : ((fmInit X.w.params).scope.names.all fun x => x.2 != .cell) = true := by kernel_rfl
    intro x hx
    have := List.all_eq_true.mp e x hx
    simpa using this

noncomputable def fmPush (P : Params) : FuncData := fdOf ((K2 P).lookup 45)
theorem ismPush (P : Params) : (K2 P).lookup 45 = some ⟨.type "function", none, .func (fmPush P), #[]⟩ := by kernel_rfl
theorem atPush {X : Txt} (G : Good X) : FAt X 45 (fmPush X.w.params) [Str.ofString "self", Str.ofString "fws", Str.ofString "string"] (bodyOf (fmPush X.w.params)) := by
  refine ⟨⟨_, by rw [G.K]; exact ismPush _, rfl⟩, by kernel_rfl, by kernel_rfl, by kernel_rfl, by rw [G.K]; kernel_rfl, Nat.le_of_ble_eq_true (by kernel_rfl), ?_, ?_, by kernel_rfl, by kernel_rfl, by kernel_rfl⟩
  · intro x hx
    simp only [List.mem_cons, List.not_mem_nil, or_false] at hx
    rcases hx with rfl | rfl | rfl <;> kernel_rfl
  · have e : ((fmPush X.w.params).scope.names.all fun x => x.2 != .cell) = true := by kernel_rfl
    intro x hx
    have := List.all_eq_true.mp e x hx
    simpa using this

noncomputable def fmPopFrom (P : Params) : FuncData := fdOf ((K2 P).lookup 53)
theorem ismPopFrom (P : Params) : (K2 P).lookup 53 = some ⟨.type "function", none, .func (fmPopFrom P), #[]⟩ := by kernel_rfl
theorem atPopFrom {X : Txt} (G : Good X) : FAt X 53 (fmPopFrom X.w.params) [Str.ofString "self", Str.ofString "i"] (bodyOf (fmPopFrom X.w.params)) := by
  refine ⟨⟨_, by rw [G.K]; exact ismPopFrom _, rfl⟩, by kernel_rfl, by kernel_rfl, by kernel_rfl, by rw [G.K]; kernel_rfl, Nat.le_of_ble_eq_true (by kernel_rfl), ?_, ?_, by kernel_rfl, by kernel_rfl, by kernel_rfl⟩
  · intro x hx
    simp only [List.mem_cons, List.not_mem_nil, or_false] at hx
    rcases hx with rfl | rfl <;> kernel_rfl
  · have e : ((fmPopFrom X.w.params).scope.names.all fun x => x.2 != .cell) = true := by kernel_rfl
    intro x hx
    have := List.all_eq_true.mp e x hx
    simpa using this

noncomputable def fmPop (P : Params) : FuncData := fdOf ((K2 P).lookup 61)
theorem ismPop (P : Params) : (K2 P).lookup 61 = some ⟨.type "function", none, .func (fmPop P), #[]⟩ := by kernel_rfl
theorem atPop {X : Txt} (G : Good X) : FAt X 61 (fmPop X.w.params) [Str.ofString "self"] (bodyOf (fmPop X.w.params)) := by
  refine ⟨⟨_, by rw [G.K]; exact ismPop _, rfl⟩, by kernel_rfl, by kernel_rfl, by kernel_rfl, by rw [G.K]; kernel_rfl, Nat.le_of_ble_eq_true (by kernel_rfl), ?_, ?_, by kernel_rfl, by kernel_rfl, by kernel_rfl⟩
  · intro x hx
    simp only [List.mem_cons, List.not_mem_nil, or_false] at hx
    subst hx; kernel_rfl
  · have e : ((fmPop X.w.params).scope.names.all fun x => x.2 != .cell) = true := by kernel_rfl
    intro x hx
    have := List.all_eq_true.mp e x hx
    simpa using this

noncomputable def fmLen (P : Params) : FuncData := fdOf ((K2 P).lookup 68)
theorem ismLen (P : Params) : (K2 P).lookup 68 = some ⟨.type "function", none, .func (fmLen P), #[]⟩ := by kernel_rfl
theorem atLen {X : Txt} (G : Good X) : FAt X 68 (fmLen X.w.params) [Str.ofString "self"] (bodyOf (fmLen X.w.params)) := by
  refine ⟨⟨_, by rw [G.K]; exact ismLen _, rfl⟩, by kernel_rfl, by kernel_rfl, by kernel_rfl, by rw [G.K]; kernel_rfl, Nat.le_of_ble_eq_true (by kernel_rfl), ?_, ?_, by kernel_rfl, by kernel_rfl, by kernel_rfl⟩
  · intro x hx
    simp only [List.mem_cons, List.not_mem_nil, or_false] at hx
    subst hx; kernel_rfl
  · have e : ((fmLen X.w.params).scope.names.all fun x => x.2 != .cell) = true := by kernel_rfl
    intro x hx
    have := List.all_eq_true.mp e x hx
    simpa using this

noncomputable def fmStr (P : Params) : FuncData := fdOf ((K2 P).lookup 75)
theorem ismStr (P : Params) : (K2 P).lookup 75 = some ⟨.type "function", none, .func (fmStr P), #[]⟩ := by kernel_rfl
theorem atStr {X : Txt} (G : Good X) : FAt X 75 (fmStr X.w.params) [Str.ofString "self"] (bodyOf (fmStr X.w.params)) := by
  refine ⟨⟨_, by rw [G.K]; exact ismStr _, rfl⟩, by kernel_rfl, by kernel_rfl, by kernel_rfl, by rw [G.K]; kernel_rfl, Nat.le_of_ble_eq_true (by kernel_rfl), ?_, ?_, by kernel_rfl, by kernel_rfl, by kernel_rfl⟩
  · intro x hx
    simp only [List.mem_cons, List.not_mem_nil, or_false] at hx
    subst hx; kernel_rfl
  · have e : ((fmStr X.w.params).scope.names.all fun x => x.2 != .cell) = true := by kernel_rfl
    intro x hx
    have := List.all_eq_true.mp e x hx
    simpa using this

noncomputable def fmReset (P : Params) : FuncData := fdOf ((K2 P).lookup 83)
theorem ismReset (P : Params) : (K2 P).lookup 83 = some ⟨.type "function", none, .func (fmReset P), #[]⟩ := by kernel_rfl
theorem atReset {X : Txt} (G : Good X) : FAt X 83 (fmReset X.w.params) [Str.ofString "self", Str.ofString "startval"] (bodyOf (fmReset X.w.params)) := by
  refine ⟨⟨_, by rw [G.K]; exact ismReset _, rfl⟩, by kernel_rfl, by kernel_rfl, by kernel_rfl, by rw [G.K]; kernel_rfl, Nat.le_of_ble_eq_true (by kernel_rfl), ?_, ?_, by kernel_rfl, by kernel_rfl, by kernel_rfl⟩
  · intro x hx
    simp only [List.mem_cons, List.not_mem_nil, or_false] at hx
    rcases hx with rfl | rfl <;> kernel_rfl
  · have e : ((fmReset X.w.params).scope.names.all fun x => x.2 != .cell) = true := by kernel_rfl
    intro x hx
    have := List.all_eq_true.mp e x hx
    simpa using this

noncomputable def fmPc (P : Params) : FuncData := fdOf ((K2 P).lookup 98)
theorem ismPc (P : Params) : (K2 P).lookup 98 = some ⟨.type "function", none, .func (fmPc P), #[]⟩ := by kernel_rfl
theorem atPc {X : Txt} (G : Good X) : FAt X 98 (fmPc X.w.params) [Str.ofString "self"] (bodyOf (fmPc X.w.params)) := by
  refine ⟨⟨_, by rw [G.K]; exact ismPc _, rfl⟩, by kernel_rfl, by kernel_rfl, by kernel_rfl, by rw [G.K]; kernel_rfl, Nat.le_of_ble_eq_true (by kernel_rfl), ?_, ?_, by kernel_rfl, by kernel_rfl, by kernel_rfl⟩
  · intro x hx
    simp only [List.mem_cons, List.not_mem_nil, or_false] at hx
    subst hx; kernel_rfl
  · have e : ((fmPc X.w.params).scope.names.all fun x => x.2 != .cell) = true := by kernel_rfl
    intro x hx
    have := List.all_eq_true.mp e x hx
    simpa using this

theorem ex_mro {K : Frag} {C : Addr} {m : List Value} (h : (clsIn K C).map (·.mro) = some m) : ∃ cd, clsIn K C = some cd ∧ cd.mro = m := Option.map_eq_some_iff.mp h
noncomputable def lmIn (K : Frag) (C : Addr) : Bool := match K.lookup C with
  | some ⟨_, _, .cls cd, sl⟩ => (sl.toList[4]?).join == some (.builtin "list.__new__") && (cd.mro == [.ref C, .type "list", .type "object"]) && !cd.hasDel
  | _ => false
theorem ex_lm {K : Frag} {C : Addr} (h : lmIn K C = true) : ∃ oc od cd sl, K.lookup C = some ⟨oc, od, .cls cd, sl⟩ ∧ (sl.toList[4]?).join = some (.builtin "list.__new__") ∧ cd.mro = [.ref C, .type "list", .type "object"] ∧ cd.hasDel = false := by
  unfold lmIn at h
  split at h
  · rename_i oc od cd sl e
    simp only [Bool.and_eq_true, beq_iff_eq, Bool.not_eq_true'] at h
    exact ⟨oc, od, cd, sl, e, h.1.1, h.1.2, h.2⟩
  · cases h
theorem ex_self {fd : FuncData} (h : ((fd.params.posonlyargs ++ fd.params.args).head?).map (·.arg) = some ("self" : Str)) : ∃ ar, (fd.params.posonlyargs ++ fd.params.args).head? = some ar ∧ ar.arg = "self" := Option.map_eq_some_iff.mp h
noncomputable def fileIn (K : Frag) (c : Value) (file : Str) : Bool := (refV c).any fun cc => (K.lookup cc).any fun o => (fldD o.data).any fun vs => (vs[2]? : Option Value).any fun v => strV v && (match v with | .str f _ => file == f | _ => false)
theorem ex_file {K : Frag} {c : Value} {file : Str} (h : fileIn K c file = true) : CodeFile K c file := by
  obtain ⟨cc, e1, h⟩ := any_ok h
  obtain ⟨oc, e2, h⟩ := any_ok h
  obtain ⟨vs, e3, h⟩ := any_ok h
  obtain ⟨v, e4, h⟩ := any_ok h
  obtain ⟨h5, h⟩ := two_ok h
  obtain ⟨f, tf, rfl⟩ := strV_ok h5
  exact ⟨cc, oc, vs, f, tf, refV_ok e1, e2, fldD_ok e3, e4, h⟩
noncomputable def cellIn (K : Frag) (cl : List (Str × Addr)) (v : Value) : Bool := match cl with
  | [(n, c)] => n == ("__class__" : Str) && (K.lookup c).any fun o => (celD o.data).any fun u => u == v
  | _ => false
theorem ex_cell {K : Frag} {l : List (Str × Addr)} {C : Addr} (h : cellIn K l (.ref C) = true) : CloOk K l C := by
  match l, h with
  | [(n, c)], h =>
    obtain ⟨h1, h⟩ := two_ok h
    obtain ⟨o, e2, h⟩ := any_ok h
    obtain ⟨u, e3, h⟩ := any_ok h
    exact ⟨c, o, by rw [beq_iff_eq.mp h1], e2, by rw [celD_ok e3, beq_iff_eq.mp h]⟩
noncomputable def genIn (K : Frag) (cv : Value) (P : Addr) : Bool := (refV cv).any fun c => (c != P) && (K.lookup c).any fun o => (o.cls == .type "code") && (fldD o.data).any fun vs =>
  (vs[11]? == some (.ref P)) && (strV (vs.getD 18 .none) && (intV (vs.getD 7 .none) && (boolV (vs.getD 9 .none) && intV (vs.getD 10 .none))))
theorem ex_code {K : Frag} {cv : Value} {P : Addr} (h : genIn K cv P = true) : GenCodeOk K cv P := by
  obtain ⟨c, e1, h⟩ := any_ok h
  obtain ⟨hne, h⟩ := two_ok h
  obtain ⟨o, e2, h⟩ := any_ok h
  obtain ⟨hc, h⟩ := two_ok h
  obtain ⟨vs, e3, h⟩ := any_ok h
  obtain ⟨h11, h⟩ := two_ok h
  obtain ⟨h18, h⟩ := two_ok h
  obtain ⟨h7, h⟩ := two_ok h
  obtain ⟨h9, h10⟩ := two_ok h
  obtain ⟨f, tf, e18⟩ := strV_ok h18
  obtain ⟨g, tg, e7⟩ := intV_ok h7
  obtain ⟨b, e9⟩ := boolV_ok h9
  obtain ⟨n, tt, e10⟩ := intV_ok h10
  exact ⟨c, o, vs, f, tf, g, tg, b, n, tt, refV_ok e1, e2, beq_iff_eq.mp hc, fldD_ok e3, beq_iff_eq.mp h11, e18, e7, e9, e10, bne_iff_ne.mp hne⟩
theorem find_at {X : Txt} (G : Good X) {name : Str} {v : Option Value} (e : findIn (K2 X.w.params) (.ref 101) name = some v) : findIn X.K (.ref X.accCls) name = some v := by rw [G.K, G.acc]; exact e
theorem accB {X : Txt} (G : Good X) : AccB X := by
  refine ⟨⟨find_at G (by kernel_rfl), find_at G (by kernel_rfl), ?_, find_at G (by kernel_rfl), find_at G (by kernel_rfl), ?_, ?_⟩, ?_, ?_, ?_, ?_, ?_, ?_⟩
  · rw [G.K, G.acc]; kernel_rfl
  · rw [G.K, G.acc]; exact ex_mro (by kernel_rfl)
  · rw [G.acc, G.tabs]; decide
  · rw [G.K, G.acc]; kernel_rfl
  · exact ⟨find_at G (by kernel_rfl), by decide +kernel, by decide +kernel, by decide +kernel, entryFor_of_tree (by kernel_rfl), fun self => by kernel_rfl⟩
  · exact ⟨find_at G (by kernel_rfl), by decide +kernel, by decide +kernel, by decide +kernel, entryFor_of_tree (by kernel_rfl), fun self => by kernel_rfl⟩
  · exact ⟨find_at G (by kernel_rfl), by decide +kernel, by decide +kernel, by decide +kernel, entryFor_of_tree (by kernel_rfl), fun self => by kernel_rfl⟩
  · exact ⟨find_at G (by kernel_rfl), by decide +kernel, by decide +kernel, by decide +kernel, entryFor_of_tree (by kernel_rfl), fun self => by kernel_rfl⟩
  · exact ⟨find_at G (by kernel_rfl), by decide +kernel, by decide +kernel, by decide +kernel, F.entry_list_ga, fun self => by kernel_rfl⟩

theorem lm {X : Txt} (G : Good X) : LMakes X 38 := by
  refine ⟨?_, ?_, ?_, find_at G (by kernel_rfl), ?_⟩
  · rw [G.K, G.acc]; exact ex_lm (by kernel_rfl)
  · rw [G.K, G.acc]; kernel_rfl
  · rw [G.K, G.acc]; kernel_rfl
  · rw [G.K]; kernel_rfl

theorem supInit {X : Txt} (G : Good X) : SupFn X 38 (fmInit X.w.params) := by
  refine ⟨⟨_, by rw [G.K]; exact ismInit _, rfl⟩, ex_self (by kernel_rfl), ?_, ?_, ?_, by kernel_rfl, by kernel_rfl, by kernel_rfl, b_super G, ?_, by kernel_rfl⟩
  · rw [G.K, G.prog]; exact ex_file (by kernel_rfl)
  · rw [G.prog]; kernel_rfl
  · rw [G.K, G.acc]; exact ex_cell (by kernel_rfl)
  · rw [G.K]; kernel_rfl

theorem supPop {X : Txt} (G : Good X) : SupFn X 61 (fmPop X.w.params) := by
  refine ⟨⟨_, by rw [G.K]; exact ismPop _, rfl⟩, ex_self (by kernel_rfl), ?_, ?_, ?_, by kernel_rfl, by kernel_rfl, by kernel_rfl, b_super G, ?_, by kernel_rfl⟩
  · rw [G.K, G.prog]; exact ex_file (by kernel_rfl)
  · rw [G.prog]; kernel_rfl
  · rw [G.K, G.acc]; exact ex_cell (by kernel_rfl)
  · rw [G.K]; kernel_rfl

theorem supPc {X : Txt} (G : Good X) : SupFn X 98 (fmPc X.w.params) := by
  refine ⟨⟨_, by rw [G.K]; exact ismPc _, rfl⟩, ex_self (by kernel_rfl), ?_, ?_, ?_, by kernel_rfl, by kernel_rfl, by kernel_rfl, b_super G, ?_, by kernel_rfl⟩
  · rw [G.K, G.prog]; exact ex_file (by kernel_rfl)
  · rw [G.prog]; kernel_rfl
  · rw [G.K, G.acc]; exact ex_cell (by kernel_rfl)
  · rw [G.K]; kernel_rfl

theorem genLen {X : Txt} (G : Good X) : GenFn X (fmLen X.w.params) 63 := by
  refine ⟨by rw [G.tabs]; decide, ?_, fun W vs h => by rw [G.tabP] at h; exact h, fun W vs l c a h => by rw [G.tabP] at h ⊢; exact triples_more h⟩
  rw [G.K]; exact ex_code (by kernel_rfl)

theorem genStr {X : Txt} (G : Good X) : GenFn X (fmStr X.w.params) 70 := by
  refine ⟨by rw [G.tabs]; decide, ?_, fun W vs h => by rw [G.tabP] at h; exact h, fun W vs l c a h => by rw [G.tabP] at h ⊢; exact triples_more h⟩
  rw [G.K]; exact ex_code (by kernel_rfl)

/-! _law_above -/
noncomputable def aboveL (cs : List Int) (start : Int) : Nat → Int → Int → Int
  | 0, _, _ => start - 1
  | n + 1, j, more => if 0 ≤ more + cs.getD (j % 8).toNat 0 - 1 then j else aboveL cs start n (j - 1) (more + cs.getD (j % 8).toNat 0 - 1)
noncomputable def above (cs : List Int) (i start : Int) : Int := aboveL cs start (i - start).toNat (i - 1) 0
inductive AboveI (cs : List Int) (start : Int) (σ : Sto) (Q : PV → Sto → Prop) (xs : List PV) (ρ : Loc) (σ' : Sto) : Prop
  | mk (h1 : σ' = σ) (n : Nat) (j : Int) (more : Int) (h2 : xs = rangeFrom j (-1) n) (h3 : ρ (Str.ofString "more") = some (.int more)) (h4 : ρ (Str.ofString "counts") = some (.lst (pis cs))) (h5 : ρ (Str.ofString "start") = some (.int start)) (h6 : Q (.int (aboveL cs start n j more)) σ)
theorem above_ok {X : Txt} (G : Good X) {k : Nat} {σ : Sto} {cs : List Int} {i start : Int} {Q : PV → Sto → Prop} (hc : cs.length = 8) (hi : -1000 ≤ i ∧ i ≤ 1000) (hs : -1000 ≤ start ∧ start ≤ 1000)
    (h : Q (.int (above cs i start)) σ) : TOp X (k + 1) (fun vs => PySem.call (.ref 301) vs) [.int i, .int start, .lst (pis cs)] σ Q := by
  have T := G.ok
  refine TOp.def' T (defAbove G) rfl (TDef.in' fun env hf => ?_)
  dsimp only [bindP, List.zip_cons_cons, List.zip_nil_left]
  repeat wtm_at "pvs"
  refine ⟨_, _, rfl, rfl, rfl, ⟨by omega, by omega⟩, ⟨by omega, by omega⟩, ?_⟩
  have e : (i - 1 - (start - 1)).toNat = (i - start).toNat := by congr 1; omega
  rw [e]
  unfold above at h
  refine TFor.inv (AboveI cs start σ Q) ?_ ?_ ?_
  · rintro x xs ρ σ' ⟨rfl, n, j, more, hx, h1, h2, h3, h⟩
    cases n with
    | zero => cases hx
    | succ n =>
      cases hx
      repeat wtm_at "pvs"
      refine TOp.itemL (by omega) (pis_get (by omega)) ?_
      repeat wtm_at "pvs"
      unfold aboveL at h
      refine ite_dec (fun hm => ?_) fun hm => ?_
      · rw [if_pos hm] at h
        repeat wtm_at "pvs"
        exact h
      · rw [if_neg hm] at h
        repeat wtm_at "pvs"
        exact ⟨rfl, n, j - 1, _, rfl, by wtm_at "pvl", by wtm_at "pvl", by wtm_at "pvl", h⟩
  · rintro ρ σ' ⟨rfl, n, j, more, hx, h1, h2, h3, h⟩
    cases n with
    | succ => cases hx
    | zero =>
      repeat wtm_at "pvs"
      exact h
  · exact ⟨rfl, _, _, _, rfl, by wtm_at "pvl", by wtm_at "pvl", by wtm_at "pvl", h⟩

/-! _law_count -/
noncomputable def isX (m : Int) (k : Nat) : Bool := m / 8 ^ k % 2 == 1 && m / 2 ^ (9 + k) % 2 == 0
noncomputable def countF (m : Int) : Int := ((List.range 3).filter (isX m)).length
theorem filter_as {α : Type} (p : α → Bool) (f : α → PV) : ∀ xs : List α, xs.filterMap (fun x => if p x then some (f x) else none) = (xs.filter p).map f
  | [] => rfl
  | x :: xs => by
    cases h : p x <;> simp [List.filterMap_cons, List.filter_cons, h, filter_as p f xs]
theorem count_ok {X : Txt} (G : Good X) {k : Nat} {σ : Sto} {m : Int} {Q : PV → Sto → Prop} (h : Q (.int (countF m)) σ) : TOp X (k + 1) (fun vs => PySem.call (.ref 294) vs) [.int m] σ Q := by
  have T := G.ok
  refine TOp.def' T (defCount G) rfl (TDef.in' fun env hf => ?_)
  dsimp only [bindP, List.zip_cons_cons, List.zip_nil_left]
  repeat wtm_at "pvs"
  refine ⟨by decide, fun C => ?_⟩
  show TGens X _ _ _ _ (rangeFrom 0 1 3) _ _ _ _
  rw [range_up]
  refine TGens.pure nat (fun i => if isX m i then some (nat i) else none) (fun ρ => ρ (Str.ofString "mode") = some (.int m)) (by wtm_at "pvl") (fun x hx ρ hρ => ?_) (by decide) fun ρ hρ => ?_
  · simp only [List.mem_range] at hx
    have hc : x = 0 ∨ x = 1 ∨ x = 2 := by omega
    rcases hc with rfl | rfl | rfl
    all_goals
      repeat wtm_at "pvs"
      refine ite_bool (fun h1 => ?_) (fun h1 => ?_)
      · repeat wtm_at "pvs"
        refine ite_bool (fun h2 => ?_) (fun h2 => ?_)
        · repeat wtm_at "pvs"
          exact ⟨rfl, by rw [if_pos]; unfold isX; rw [Bool.and_eq_true]; exact ⟨h1, h2⟩, by wtm_at "pvl"⟩
        · repeat wtm_at "pvs"
          exact ⟨rfl, by rw [if_neg]; unfold isX; rw [Bool.and_eq_true]; exact fun h => Bool.false_ne_true (h2.symm.trans h.2), by wtm_at "pvl"⟩
      · repeat wtm_at "pvs"
        exact ⟨rfl, by rw [if_neg]; unfold isX; rw [Bool.and_eq_true]; exact fun h => Bool.false_ne_true (h1.symm.trans h.1), by wtm_at "pvl"⟩
  · rw [filter_as]
    repeat wtm_at "pvs"
    rw [List.nil_append, List.length_map]
    exact h

/-! _law_row -/
noncomputable def fig (m : Int) (k : Nat) : Int := m / 8 ^ (2 - k) % 8
noncomputable def headC (m : Int) : Nat := (Str.ofString "?pc?d?b?-?l?s???").cps.toList.getD (m / 4096 % 16).toNat 0
noncomputable def exC (m : Int) (k : Nat) : Nat :=
  if m / 2 ^ (11 - k) % 2 = 1 then (if k = 2 then (if fig m k % 2 = 0 then 84 else 116) else (if fig m k % 2 = 0 then 83 else 115)) else (if fig m k % 2 = 0 then 45 else 120)
noncomputable def rowS (m : Int) : Nat → Str
  | 0 => ⟨#[headC m]⟩
  | k + 1 => ((rowS m k ++ (if decide (fig m k > 3) then Str.ofString "r" else Str.ofString "-")) ++ (if decide (fig m k % 4 > 1) then Str.ofString "w" else Str.ofString "-")) ++ ⟨#[exC m k]⟩
theorem rw_len (c : Bool) (a b : Str) (h1 : a.length = 1) (h2 : b.length = 1) : (if c then a else b).length = 1 := by cases c <;> assumption
theorem rowS_len (m : Int) : ∀ k, (rowS m k).length = 1 + 3 * k
  | 0 => rfl
  | k + 1 => by
    unfold rowS
    simp only [Str.length_append, rowS_len m k, rw_len _ _ _ (show (Str.ofString "r").length = 1 from rfl) (show (Str.ofString "-").length = 1 from rfl), rw_len _ _ _ (show (Str.ofString "w").length = 1 from rfl) (show (Str.ofString "-").length = 1 from rfl)]
    show 1 + 3 * k + 1 + 1 + 1 = _
    lia
theorem rowS_one (m : Int) (k : Nat) (hk : k ≠ 2) (hb : m / 2 ^ (11 - k) % 2 = 1) :
    rowS m (k + 1) = ((rowS m k ++ (if decide (fig m k > 3) then Str.ofString "r" else Str.ofString "-")) ++ (if decide (fig m k % 4 > 1) then Str.ofString "w" else Str.ofString "-")) ++ ⟨#[if fig m k % 2 = 0 then 83 else 115]⟩ := by
  have e : exC m k = if fig m k % 2 = 0 then 83 else 115 := (if_pos hb).trans (if_neg hk)
  rw [← e]; rfl
theorem rowS_two (m : Int) (hb : m / 2 ^ (11 - 2) % 2 = 1) :
    rowS m (2 + 1) = ((rowS m 2 ++ (if decide (fig m 2 > 3) then Str.ofString "r" else Str.ofString "-")) ++ (if decide (fig m 2 % 4 > 1) then Str.ofString "w" else Str.ofString "-")) ++ ⟨#[if fig m 2 % 2 = 0 then 84 else 116]⟩ := by
  have e : exC m 2 = if fig m 2 % 2 = 0 then 84 else 116 := (if_pos hb).trans (if_pos rfl)
  rw [← e]; rfl
theorem rowS_not (m : Int) (k : Nat) (hb : m / 2 ^ (11 - k) % 2 ≠ 1) :
    rowS m (k + 1) = ((rowS m k ++ (if decide (fig m k > 3) then Str.ofString "r" else Str.ofString "-")) ++ (if decide (fig m k % 4 > 1) then Str.ofString "w" else Str.ofString "-")) ++ ⟨#[if fig m k % 2 = 0 then 45 else 120]⟩ := by
  have e : exC m k = if fig m k % 2 = 0 then 45 else 120 := if_neg hb
  rw [← e]; rfl
theorem char2 (x : Str) (a b : Nat) (h : x = ⟨#[a, b]⟩) (i : Int) : Txt.charAt x (i % 2) = some (if i % 2 = 0 then a else b) := by
  rw [charAt_in (by lia) (by rw [h]; show i % 2 < 2; lia)]
  have hc : i % 2 = 0 ∨ i % 2 = 1 := by lia
  rcases hc with e | e <;> rw [e, h] <;> rfl
inductive RowI (m : Int) (σ : Sto) (xs : List PV) (ρ : Loc) (σ' : Sto) : Prop
  | mk (h1 : σ' = σ) (j : Nat) (h2 : j ≤ 3) (h3 : xs = (List.range' j (3 - j)).map nat) (h4 : ρ (Str.ofString "mode") = some (.int m)) (h5 : ρ (Str.ofString "row") = some (.str (rowS m j)))
theorem row_ok {X : Txt} (G : Good X) {k : Nat} {σ : Sto} {m : Int} {Q : PV → Sto → Prop} (h : Q (.str (rowS m 3)) σ) : TOp X (k + 1) (fun vs => PySem.call (.ref 289) vs) [.int m] σ Q := by
  have T := G.ok
  refine TOp.def' T (defRow G) rfl (TDef.in' fun env hf => ?_)
  dsimp only [bindP, List.zip_cons_cons, List.zip_nil_left]
  repeat wtm_at "pvs"
  refine TOp.itemS (c := headC m) (by lia) (by lia) (charAt_in (by lia) (by show _ < (16 : Int); lia)) ?_
  repeat wtm_at "pvs"
  refine ⟨by decide, ?_⟩
  have hlen := rowS_len m
  have hsl := sl_big
  have la : ∀ c : Bool, (if c then Str.ofString "r" else Str.ofString "-").length = 1 := fun c => rw_len c _ _ rfl rfl
  have lb : ∀ c : Bool, (if c then Str.ofString "w" else Str.ofString "-").length = 1 := fun c => rw_len c _ _ rfl rfl
  refine TFor.inv (RowI m σ) ?_ ?_ ?_
  · rintro x xs ρ σ' ⟨rfl, j, hj, hx, h1, h2⟩
    have hc : j = 0 ∨ j = 1 ∨ j = 2 ∨ j = 3 := by lia
    rcases hc with rfl | rfl | rfl | rfl
    rotate_right
    · cases hx
    all_goals
      cases hx
      repeat wtm_at "pvs"
      refine TOp.addS (by simp only [hlen, la]; lia) ?_
      repeat wtm_at "pvs"
      refine TOp.addS (by simp only [Str.length_append, hlen, la, lb]; lia) ?_
      repeat wtm_at "pvs"
      refine ite_beq (fun hb => ?_) (fun hb => ?_)
      · repeat wtm_at "pvs"
        refine TOp.itL (by rfl) ?_
        repeat wtm_at "pvs"
        refine TOp.itemS (by lia) (by lia) (by first | exact char2 _ 83 115 rfl _ | exact char2 _ 84 116 rfl _) ?_
        repeat wtm_at "pvs"
        refine TOp.addS (by simp only [Str.length_append, hlen, la, lb]; show _ + 1 ≤ _; lia) ?_
        repeat wtm_at "pvs"
        refine ⟨rfl, _, ?_, rfl, by wtm_at "pvl", Loc.hit.trans ?_⟩
        · lia
        · first
            | exact congrArg (fun s => some (PV.str s)) (rowS_one m 0 (by decide) hb).symm
            | exact congrArg (fun s => some (PV.str s)) (rowS_one m 1 (by decide) hb).symm
            | exact congrArg (fun s => some (PV.str s)) (rowS_two m hb).symm
      · repeat wtm_at "pvs"
        refine TOp.itemS (by lia) (by lia) (char2 _ 45 120 rfl _) ?_
        repeat wtm_at "pvs"
        refine TOp.addS (by simp only [Str.length_append, hlen, la, lb]; show _ + 1 ≤ _; lia) ?_
        repeat wtm_at "pvs"
        refine ⟨rfl, _, ?_, rfl, by wtm_at "pvl", Loc.hit.trans ?_⟩
        · lia
        · first
            | exact congrArg (fun s => some (PV.str s)) (rowS_not m 0 hb).symm
            | exact congrArg (fun s => some (PV.str s)) (rowS_not m 1 hb).symm
            | exact congrArg (fun s => some (PV.str s)) (rowS_not m 2 hb).symm
  · rintro ρ σ' ⟨rfl, j, hj, hx, h1, h2⟩
    have hc : j = 3 := by
      have := congrArg List.length hx
      simp at this; lia
    subst hc
    repeat wtm_at "pvs"
    exact h
  · exact ⟨rfl, 0, by lia, rfl, by wtm_at "pvl", Loc.hit⟩

/-! _law_modes -/
noncomputable def firsts : List Int := [24992, 33224, 17345, 18816, 41398, 36344, 16895, 4096]
noncomputable def pickI (xs : List Int) (lo hi st : Option Int) : List Int :=
  (sliceRange (sliceBounds lo hi st xs.length).1 (sliceBounds lo hi st xs.length).2.1 (sliceBounds lo hi st xs.length).2.2).filterMap (xs[·]?)
theorem pick_pis (xs : List Int) (lo hi st : Option Int) : pickP (pis xs) lo hi st = pis (pickI xs lo hi st) := by
  unfold pickP pickI pis
  rw [List.length_map, List.map_filterMap]
  congr 1
  funext i
  simp [List.getElem?_map]
theorem idx_pis {xs : List Int} {i : Nat} (h : i < xs.length) : idx (pis xs) (i : Int) = some (.int (xs.getD i 0)) := by
  rw [idx_pos (by omega), Int.toNat_natCast]; exact pis_get h
theorem modes_ok {X : Txt} (G : Good X) {k : Nat} {σ : Sto} {sc : List Int} {Q : PV → Sto → Prop} (hsc : sc.length ≤ 1000)
    (h : ∀ ms : List Int, ms.length = 8 → (∀ m ∈ ms, 0 ≤ m ∧ m < 4294967296) → Q (.lst (pis ms)) σ) : TOp X (k + 1) (fun vs => PySem.call (.ref 263) vs) [.lst (pis sc)] σ Q := by
  have T := G.ok
  refine TOp.def' T (defModes G) rfl (TDef.in' fun env hf => ?_)
  dsimp only [bindP, List.zip_cons_cons, List.zip_nil_left]
  repeat wtm_at "pvs"
  refine ⟨by decide, fun C => ?_⟩
  show TGens X _ _ _ _ (rangeFrom 0 1 8) _ _ _ _
  rw [range_up]
  refine TGens.map nat (fun i => .int ((firsts.getD i 0 + (pickI sc (some (i : Int)) none (some 8)).sum) % 4294967296)) (fun ρ => ρ (Str.ofString "first") = some (.lst (pis firsts)) ∧ ρ (Str.ofString "script") = some (.lst (pis sc))) rfl ⟨by wtm_at "pvl", by wtm_at "pvl"⟩ (fun x hx ρ hρ => ?_) (by decide) fun ρ hρ => ?_
  · obtain ⟨h1, h2⟩ := hρ
    simp only [List.mem_range] at hx
    repeat wtm_at "pvs"
    refine TOp.itL (idx_pis (xs := firsts) (by show x < 8; omega)) ?_
    repeat wtm_at "pvs"
    refine TOp.sliceL T (.int _) .none (.int _) (by decide) ?_
    rw [pick_pis]
    refine TOp.sum T ?_
    repeat wtm_at "pvs"
    exact ⟨rfl, rfl, by wtm_at "pvl", by wtm_at "pvl"⟩
  · repeat wtm_at "pvs"
    have e : (List.range 8).map (fun (i : Nat) => PV.int ((firsts.getD i 0 + (pickI sc (some (i : Int)) none (some 8)).sum) % 4294967296)) = pis ((List.range 8).map fun (i : Nat) => (firsts.getD i 0 + (pickI sc (some (i : Int)) none (some 8)).sum) % 4294967296) := by
      unfold pis; rw [List.map_map]; rfl
    rw [e]
    refine h _ (by simp) fun m hm => ?_
    simp only [List.mem_map] at hm
    obtain ⟨i, _, rfl⟩ := hm
    omega

/-! _law_wanted -/
theorem aboveL_in (cs : List Int) (start : Int) : ∀ (n : Nat) (j more : Int), start - 1 ≤ j → (j - start + 1).toNat = n → start - 1 ≤ aboveL cs start n j more ∧ aboveL cs start n j more ≤ j
  | 0, j, more, h, e => by unfold aboveL; lia
  | n + 1, j, more, h, e => by
    unfold aboveL
    split
    · exact ⟨h, Int.le_refl _⟩
    · have := aboveL_in cs start n (j - 1) (more + cs.getD (j % 8).toNat 0 - 1) (by lia) (by lia)
      exact ⟨this.1, Int.le_trans this.2 (Int.sub_le_self _ (by decide))⟩
theorem above_in (cs : List Int) (i start : Int) (h : start ≤ i) : start - 1 ≤ above cs i start ∧ above cs i start ≤ i - 1 := aboveL_in cs start _ _ _ (by lia) (by congr 1; lia)
noncomputable def nameC (i : Int) : Nat := (Str.ofString "abcdefgh").cps.toList.getD (i % 8).toNat 0
/-- one turn: where it hangs, and what is left there -/
noncomputable def wantStep (cs : List Int) (turn : Int) (i : Nat) (s : List Str × List Int) : List Str × List Int :=
  let j := above cs (turn + i) turn - turn
  let front := if 0 ≤ j then s.1.getD j.toNat Str.empty else Str.ofString ""
  let left := if 0 ≤ j then s.2.set j.toNat (s.2.getD j.toNat 0 - 1) else s.2
  (s.1 ++ [(front ++ Str.ofString "/") ++ ⟨#[nameC (turn + i)]⟩], left ++ [cs.getD ((turn + i) % 8).toNat 0])
noncomputable def wantS (cs : List Int) (turn : Int) : Nat → List Str × List Int
  | 0 => ([], [])
  | i + 1 => wantStep cs turn i (wantS cs turn i)
noncomputable def wantRest (cs : List Int) (turn : Int) : List (Str × Str) :=
  ((List.range 8).filter fun i => decide ((wantS cs turn 8).2.getD i 0 > 0)).map fun i => ((wantS cs turn 8).1.getD i Str.empty, Txt.mul (Str.ofString "o") ((wantS cs turn 8).2.getD i 0))
noncomputable def pairs (l : List (Str × Str)) : List PV := l.map fun p => .tup [.str p.1, .str p.2]
noncomputable def wholeOf (l : List (Str × Str)) : Str := Str.join (Str.ofString "") (l.map fun p => p.1 ++ p.2)
noncomputable def reading (texts : List Str) (rest : List (Str × Str)) : PV := .lst [.lst (pss texts), .lst (pairs rest), .str (wholeOf rest), .int (wholeOf rest).length, .int rest.length]
theorem getD_mem {α : Type} {l : List α} {i : Nat} {d : α} (h : i < l.length) : l.getD i d ∈ l := by
  simp [List.getD, List.getElem?_eq_getElem h]
theorem wantS_ok {cs : List Int} (turn : Int) (hc : cs.length = 8) (hcs : ∀ c ∈ cs, 0 ≤ c ∧ c ≤ 3) : ∀ i : Nat, i ≤ 8 → (wantS cs turn i).1.length = i ∧ (wantS cs turn i).2.length = i ∧ (∀ t ∈ (wantS cs turn i).1, t.length ≤ 2 * i) ∧ ∀ l ∈ (wantS cs turn i).2, -(i : Int) ≤ l ∧ l ≤ 3
  | 0, _ => ⟨rfl, rfl, fun t h => (by cases h), fun t h => (by cases h)⟩
  | i + 1, hi => by
    obtain ⟨h1, h2, h3, h4⟩ := wantS_ok turn hc hcs i (by lia)
    have hin := above_in cs (turn + i) turn (by lia)
    have hj : (above cs (turn + i) turn - turn).toNat < i ∨ ¬ 0 ≤ above cs (turn + i) turn - turn := by lia
    refine ⟨by simp [wantS, wantStep, h1], ?_, fun t ht => ?_, fun l hl => ?_⟩
    · simp only [wantS, wantStep]; split <;> simp [h2]
    · simp only [wantS, wantStep, List.mem_append, List.mem_singleton] at ht
      rcases ht with ht | rfl
      · have := h3 t ht; lia
      · rw [Str.length_append, Str.length_append]
        have e1 : (Str.ofString "/").length = 1 := rfl
        have e2 : (⟨#[nameC (turn + i)]⟩ : Str).length = 1 := rfl
        rw [e1, e2]
        split
        · rcases hj with hj | hj
          · have := h3 _ (getD_mem (d := Str.empty) (by rw [h1]; exact hj)); lia
          · lia
        · have e3 : (Str.ofString "").length = 0 := rfl
          lia
    · simp only [wantS, wantStep, List.mem_append, List.mem_singleton] at hl
      have hnew : ∀ c, c = cs.getD ((turn + i) % 8).toNat 0 → -((i + 1 : Nat) : Int) ≤ c ∧ c ≤ 3 := fun c e => by
        have := hcs _ (getD_mem (l := cs) (i := ((turn + i) % 8).toNat) (d := 0) (by lia))
        lia
      rcases hl with hl | hl
      · split at hl
        · rcases List.mem_or_eq_of_mem_set hl with hl | hl
          · have := h4 l hl; lia
          · rcases hj with hj | hj
            · have := h4 _ (getD_mem (d := 0) (by rw [h2]; exact hj)); lia
            · lia
        · have := h4 l hl; lia
      · exact hnew l hl
theorem pss_idx {xs : List Str} {i : Int} (h0 : 0 ≤ i) (h : i.toNat < xs.length) : idx (pss xs) i = some (.str (xs.getD i.toNat Str.empty)) := by
  rw [idx_pos h0]; simp [pss, List.getElem?_map, List.getElem?_eq_getElem h, List.getD]
theorem pis_idx {xs : List Int} {i : Int} (h0 : 0 ≤ i) (h : i.toNat < xs.length) : idx (pis xs) i = some (.int (xs.getD i.toNat 0)) := by
  rw [idx_pos h0]; simp [pis, List.getElem?_map, List.getElem?_eq_getElem h, List.getD]
theorem pis_set (xs : List Int) (i : Nat) (v : Int) : (pis xs).set i (.int v) = pis (xs.set i v) := by unfold pis; rw [List.map_set]
theorem pis_app (xs : List Int) (v : Int) : pis xs ++ [.int v] = pis (xs ++ [v]) := by simp [pis]
theorem pss_app (xs : List Str) (v : Str) : pss xs ++ [.str v] = pss (xs ++ [v]) := by simp [pss]
theorem nameC_at (i : Int) : Txt.charAt (Str.ofString "abcdefgh") (i % 8) = some (nameC i) := charAt_in (by lia) (by show _ < (8 : Int); lia)
theorem mulO_len (n : Int) (h1 : -8 ≤ n) (h2 : n ≤ 3) : (Txt.mul (Str.ofString "o") n).length ≤ 3 := by
  by_cases h : n < 1
  · unfold Txt.mul; rw [if_pos h]; decide
  · have hc : n = 1 ∨ n = 2 ∨ n = 3 := by clear h1; lia
    rcases hc with rfl | rfl | rfl <;> decide
theorem rest_ok {cs : List Int} (turn : Int) (hc : cs.length = 8) (hcs : ∀ c ∈ cs, 0 ≤ c ∧ c ≤ 3) : (wantRest cs turn).length ≤ 8 ∧ ∀ p ∈ wantRest cs turn, p.1.length ≤ 16 ∧ p.2.length ≤ 3 := by
  obtain ⟨w1, w2, w3, w4⟩ := wantS_ok turn hc hcs 8 (by lia)
  unfold wantRest
  refine ⟨?_, fun p hp => ?_⟩
  · rw [List.length_map]
    exact Nat.le_trans (List.length_filter_le ..) (by decide)
  · simp only [List.mem_map, List.mem_filter, List.mem_range] at hp
    obtain ⟨i, ⟨hi, _⟩, rfl⟩ := hp
    have h1 := w3 _ (getD_mem (d := Str.empty) (by lia : i < (wantS cs turn 8).1.length))
    have h2 := w4 _ (getD_mem (d := 0) (by lia : i < (wantS cs turn 8).2.length))
    exact ⟨by lia, mulO_len _ h2.1 h2.2⟩
inductive WantedI (turn : Int) (cs : List Int) (a b : Addr) (σ : Sto) (xs : List PV) (ρ : Loc) (σ' : Sto) : Prop
  | mk (i : Nat) (h1 : i ≤ 8) (h2 : xs = (List.range' i (8 - i)).map nat) (h3 : ρ (Str.ofString "turn") = some (.int turn)) (h4 : ρ (Str.ofString "counts") = some (.lst (pis cs))) (h5 : ρ (Str.ofString "texts") = some (.ptr a)) (h6 : ρ (Str.ofString "left") = some (.ptr b)) (h7 : σ' = s2 σ a b (pss (wantS cs turn i).1) (pis (wantS cs turn i).2))
theorem wanted_ok {X : Txt} (G : Good X) {k : Nat} {σ : Sto} {turn : Int} {cs : List Int} {Q : PV → Sto → Prop} (ht : 0 ≤ turn ∧ turn ≤ 100) (hc : cs.length = 8) (hcs : ∀ c ∈ cs, 0 ≤ c ∧ c ≤ 3)
    (h : Q (reading (wantS cs turn 8).1 (wantRest cs turn)) σ) : TOp X (k + 2) (fun vs => PySem.call (.ref 306) vs) [.int turn, .lst (pis cs)] σ Q := by
  have T := G.ok
  have hsl := sl_big
  refine TOp.def' T (defWanted G) rfl (TDef.in' fun env hf => ?_)
  dsimp only [bindP, List.zip_cons_cons, List.zip_nil_left]
  refine TS.cons ?_
  refine T1.assign T (by eq_refl) (by eq_refl) (TE.lstPtr T (by eq_refl) ⟨len_ok (by eq_refl), fun a ha => ?_⟩)
  wtm_at "pvs"
  refine TS.cons ?_
  refine T1.assign T (by eq_refl) (by eq_refl) (TE.lstPtr T (by eq_refl) ⟨len_ok (by eq_refl), fun b hb => ?_⟩)
  wtm_at "pvs"
  obtain ⟨hab, hb⟩ := fresh2 hb
  show TS X _ _ _ _ (s2 σ a b [] []) _
  repeat wtm_at "pvs"
  refine ⟨by decide, ?_⟩
  refine TFor.inv (WantedI turn cs a b σ) ?_ ?_ ?_
  · rintro x xs ρ σ' ⟨i, hi, hx, h1, h2, h3, h4, rfl⟩
    have hi8 : i < 8 := by
      rcases Nat.lt_or_ge i 8 with e | e
      · exact e
      · have : 8 - i = 0 := by lia
        rw [this] at hx; cases hx
    have e8 : 8 - i = (8 - (i + 1)) + 1 := by lia
    rw [e8, List.range'_succ, List.map_cons] at hx
    obtain ⟨rfl, rfl⟩ := List.cons.inj hx
    repeat wtm_at "pvs"
    refine above_ok G hc (by lia) (by lia) ?_
    repeat wtm_at "pvs"
    obtain ⟨w1, w2, w3, w4⟩ := wantS_ok turn hc hcs i (by lia)
    obtain ⟨a1, a2⟩ := above_in cs (turn + i) turn (by lia)
    refine ite_dec (fun hm => ?_) fun hm => ?_
    · repeat wtm_at "pvs"
      refine ⟨_, _, _, rfl, s2a hab, pss_idx (by lia) (by lia), ?_⟩
      repeat wtm_at "pvs"
      refine ⟨_, _, _, rfl, s2b, pis_idx (by lia) (by lia), ?_⟩
      repeat wtm_at "pvs"
      refine TAsg.item T (.inr rfl) (by wtm_at "pvl") rfl ?_
      repeat wtm_at "pvs"
      refine ⟨_, _, rfl, s2b, by lia, by rw [pis, List.length_map]; lia, ?_⟩
      rw [s2_setB, pis_set]
      have hfl := w3 _ (getD_mem (d := Str.empty) (by rw [w1]; lia : (above cs (turn + i) turn - turn).toNat < _))
      repeat wtm_at "pvs"
      refine TOp.addS (by show _ + 1 ≤ _; lia) ?_
      repeat wtm_at "pvs"
      refine TOp.itemS (by lia) (by lia) (nameC_at _) ?_
      refine TOp.addS (by rw [Str.length_append]; show _ + 1 + 1 ≤ _; lia) ?_
      refine ⟨_, s2a hab, by rw [pss, List.length_map]; lia, ?_⟩
      rw [s2_setA hab, pss_app]
      repeat wtm_at "pvs"
      refine TOp.itL (pis_idx (by lia) (by lia)) ?_
      refine ⟨_, s2b, by rw [pis, List.length_map, List.length_set]; lia, ?_⟩
      rw [s2_setB, pis_app]
      repeat wtm_at "pvs"
      refine ⟨i + 1, by lia, rfl, by wtm_at "pvl", by wtm_at "pvl", by wtm_at "pvl", by wtm_at "pvl", ?_⟩
      simp only [wantS, wantStep]
      rw [if_pos (show 0 ≤ above cs (turn + i) turn - turn by lia), if_pos (show 0 ≤ above cs (turn + i) turn - turn by lia)]
    · repeat wtm_at "pvs"
      refine TOp.addS (by decide) ?_
      repeat wtm_at "pvs"
      refine TOp.itemS (by lia) (by lia) (nameC_at _) ?_
      refine TOp.addS (by rw [Str.length_append]; show _ + 1 + 1 ≤ _; decide) ?_
      refine ⟨_, s2a hab, by rw [pss, List.length_map]; lia, ?_⟩
      rw [s2_setA hab, pss_app]
      repeat wtm_at "pvs"
      refine TOp.itL (pis_idx (by lia) (by lia)) ?_
      refine ⟨_, s2b, by rw [pis, List.length_map]; lia, ?_⟩
      rw [s2_setB, pis_app]
      repeat wtm_at "pvs"
      refine ⟨i + 1, by lia, rfl, by wtm_at "pvl", by wtm_at "pvl", by wtm_at "pvl", by wtm_at "pvl", ?_⟩
      simp only [wantS, wantStep]
      rw [if_neg (show ¬ 0 ≤ above cs (turn + i) turn - turn by lia), if_neg (show ¬ 0 ≤ above cs (turn + i) turn - turn by lia)]
  · rintro ρ σ' ⟨i, hi, hx, h1, h2, h3, h4, rfl⟩
    have hc : i = 8 := by
      have := congrArg List.length hx
      simp at this; lia
    subst hc
    obtain ⟨w1, w2, w3, w4⟩ := wantS_ok turn hc hcs 8 (by lia)
    obtain ⟨z1, z2⟩ := rest_ok turn hc hcs
    repeat wtm_at "pvs"
    refine ⟨by decide, fun C => ?_⟩
    show TGens X _ _ _ _ (rangeFrom 0 1 8) _ _ _ _
    rw [range_up]
    refine TGens.pure nat (fun i => if decide ((wantS cs turn 8).2.getD i 0 > 0) then some (.tup [.str ((wantS cs turn 8).1.getD i Str.empty), .str (Txt.mul (Str.ofString "o") ((wantS cs turn 8).2.getD i 0))]) else none)
      (fun ρ => ρ (Str.ofString "left") = some (.ptr b) ∧ ρ (Str.ofString "texts") = some (.ptr a)) ⟨by wtm_at "pvl", by wtm_at "pvl"⟩ (fun x hx ρ hρ => ?_) (by decide) fun ρ hρ => ?_
    · obtain ⟨h1, h2⟩ := hρ
      simp only [List.mem_range] at hx
      repeat wtm_at "pvs"
      refine ⟨_, _, _, rfl, s2b, pis_idx (by lia) (by lia), ?_⟩
      repeat wtm_at "pvs"
      refine ite_dec (fun hm => ?_) fun hm => ?_
      · repeat wtm_at "pvs"
        refine ⟨_, _, _, rfl, s2a hab, pss_idx (by lia) (by lia), ?_⟩
        repeat wtm_at "pvs"
        refine ⟨_, _, _, rfl, s2b, pis_idx (by lia) (by lia), ?_⟩
        have hl := w4 _ (getD_mem (d := 0) (by lia : x < (wantS cs turn 8).2.length))
        refine TOp.mulS (by decide) (by show (wantS cs turn 8).2.getD x 0 ≤ _; lia) (by show _ ≤ (wantS cs turn 8).2.getD x 0; lia) ?_ (Nat.le_trans (mulO_len _ hl.1 hl.2) (by decide))
        repeat wtm_at "pvs"
        exact ⟨rfl, by rw [if_pos (by simpa using hm)]; rfl, by wtm_at "pvl", by wtm_at "pvl"⟩
      · repeat wtm_at "pvs"
        exact ⟨rfl, by rw [if_neg (by simpa using hm)], by wtm_at "pvl", by wtm_at "pvl"⟩
    · rw [filter_as]
      have er : (List.filter (fun i => decide ((wantS cs turn 8).2.getD i 0 > 0)) (List.range 8)).map (fun i => PV.tup [.str ((wantS cs turn 8).1.getD i Str.empty), .str (Txt.mul (Str.ofString "o") ((wantS cs turn 8).2.getD i 0))]) = pairs (wantRest cs turn) := by
        unfold pairs wantRest; rw [List.map_map]; rfl
      rw [List.nil_append, er]
      repeat wtm_at "pvs"
      refine Exists.intro _ ⟨.inl rfl, fun C => ?_⟩
      refine TGens.map (fun p : Str × Str => .tup [.str p.1, .str p.2]) (fun p => .str (p.1 ++ p.2)) (fun _ => True) rfl trivial (fun x hx ρ hρ => ?_) (by lia) fun ρ hρ => ?_
      · repeat wtm_at "pvs"
        have hz := z2 x hx
        refine TOp.addS (by lia) ?_
        exact ⟨rfl, rfl, trivial⟩
      · refine TOp.id ?_
        have ew : (wantRest cs turn).map (fun p => PV.str (p.1 ++ p.2)) = pss ((wantRest cs turn).map fun p => p.1 ++ p.2) := by unfold pss; rw [List.map_map]; rfl
        rw [ew]
        refine TOp.joinB 19 (fun t ht => ?_) (by rw [List.length_map]; show _ * (19 + 0) ≤ _; lia) ?_
        · simp only [List.mem_map] at ht
          obtain ⟨p, hp, rfl⟩ := ht
          have := z2 p hp
          rw [Str.length_append]; lia
        · wtm_at "pvs"
          refine TS.drop T b ?_
          rw [s2_dropB hab ha hb]
          wtm_at "pvs"
          wtm_at "pvs"
          wtm_at "pvs"
          refine TE.locF T (.inr rfl) (by wtm_at "pvl") Sto.hit rfl ?_
          rw [Sto.back ha]
          repeat wtm_at "pvs"
          have el : (pairs (wantRest cs turn)).length = (wantRest cs turn).length := List.length_map ..
          rw [el]
          exact h
  · exact ⟨0, by lia, rfl, by wtm_at "pvl", by wtm_at "pvl", by wtm_at "pvl", by wtm_at "pvl", rfl⟩

/-! _law_forest -/
noncomputable def forestL (cs : List Int) : Nat → Int → Str → Str
  | 0, _, t => t
  | n + 1, i, t =>
    let t' := (Str.ofString "/" ++ ⟨#[nameC i]⟩) ++ t
    if above cs (i + 8) (i + 1) = i then t' else forestL cs n (above cs (i + 8) (i + 1) % 8) t'
noncomputable def forestF (cs : List Int) (k : Nat) : Str := forestL cs 8 k (Str.ofString "")
noncomputable def forests (cs : List Int) : List Str := (List.range 8).map (forestF cs)
theorem nameC_in {i : Int} (h0 : 0 ≤ i) (h : i < 8) : Txt.charAt (Str.ofString "abcdefgh") i = some (nameC i) := by
  have := nameC_at i
  rwa [Int.emod_eq_of_lt h0 h] at this
inductive ForestJ (cs : List Int) (a : Addr) (i : Nat) (σ : Sto) (xs : List PV) (ρ : Loc) (σ' : Sto) : Prop
  | mk (n : Nat) (j : Int) (t : Str) (h1 : xs.length = n) (h2 : 0 ≤ j) (h3 : j < 8) (h4 : t.length ≤ 100 - 2 * n) (h5 : n ≤ 8) (h6 : ρ (Str.ofString "counts") = some (.lst (pis cs))) (h7 : ρ (Str.ofString "texts") = some (.ptr a)) (h8 : ρ (Str.ofString "i") = some (.int j)) (h9 : ρ (Str.ofString "text") = some (.str t)) (h10 : forestL cs n j t = forestF cs i) (h11 : σ' = σ.set a (some (.list (pss ((List.range i).map (forestF cs))))))
inductive ForestI (cs : List Int) (a : Addr) (σ : Sto) (xs : List PV) (ρ : Loc) (σ' : Sto) : Prop
  | mk (i : Nat) (h1 : i ≤ 8) (h2 : xs = (List.range' i (8 - i)).map nat) (h3 : ρ (Str.ofString "counts") = some (.lst (pis cs))) (h4 : ρ (Str.ofString "texts") = some (.ptr a)) (h5 : σ' = σ.set a (some (.list (pss ((List.range i).map (forestF cs))))))
theorem forest_ok {X : Txt} (G : Good X) {k : Nat} {σ : Sto} {cs : List Int} {Q : PV → Sto → Prop} (hc : cs.length = 8)
    (h : ∀ ys : List Str, ys.Perm (forests cs) → sortedS ys = true → Q (.lst (pss ys)) σ) : TOp X (k + 2) (fun vs => PySem.call (.ref 313) vs) [.lst (pis cs)] σ Q := by
  have T := G.ok
  have hsl := sl_big
  refine TOp.def' T (defForest G) rfl (TDef.in' fun env hf => ?_)
  dsimp only [bindP, List.zip_cons_cons, List.zip_nil_left]
  wtm_at "pvs"
  refine T1.assign T (by eq_refl) (by eq_refl) (TE.lstPtr T (by eq_refl) ⟨len_ok (by eq_refl), fun a ha => ?_⟩)
  repeat wtm_at "pvs"
  refine ⟨by decide, ?_⟩
  refine TFor.inv (ForestI cs a σ) ?_ ?_ ?_
  · rintro x xs ρ σ' ⟨i, hi, hx, h1, h2, rfl⟩
    have hi8 : i < 8 := by
      rcases Nat.lt_or_ge i 8 with e | e
      · exact e
      · have : 8 - i = 0 := by lia
        rw [this] at hx; cases hx
    have e8 : 8 - i = (8 - (i + 1)) + 1 := by lia
    rw [e8, List.range'_succ, List.map_cons] at hx
    obtain ⟨rfl, rfl⟩ := List.cons.inj hx
    repeat wtm_at "pvs"
    refine ⟨by decide, ?_⟩
    refine TFor.inv (ForestJ cs a i σ) ?_ ?_ ?_
    · rintro x xs ρ σ' ⟨n, j, t, hx, hj, hj8, ht, hn, h1, h2, h3, h4, h5, rfl⟩
      cases n with
      | zero => cases hx
      | succ n =>
        simp only [List.length_cons, Nat.add_right_cancel_iff] at hx
        repeat wtm_at "pvs"
        refine TOp.itemS (by lia) (by lia) (nameC_in hj hj8) ?_
        refine TOp.addS (len_ok (by eq_refl)) ?_
        repeat wtm_at "pvs"
        refine TOp.addS (by rw [Str.length_append]; show 1 + 1 + _ ≤ _; lia) ?_
        repeat wtm_at "pvs"
        refine above_ok G hc (by lia) (by lia) ?_
        repeat wtm_at "pvs"
        simp only [forestL] at h5
        refine ite_beq (fun hm => ?_) fun hm => ?_
        · rw [if_pos hm] at h5
          repeat wtm_at "pvs"
          refine ⟨_, Sto.hit, by rw [pss, List.length_map, List.length_map, List.length_range]; lia, ?_⟩
          rw [Sto.over, pss_app]
          repeat wtm_at "pvs"
          refine ⟨i + 1, by lia, rfl, by wtm_at "pvl", by wtm_at "pvl", ?_⟩
          rw [List.range_succ, List.map_append, h5]; rfl
        · rw [if_neg hm] at h5
          repeat wtm_at "pvs"
          exact ⟨n, _, _, hx, by lia, by lia, by rw [Str.length_append, Str.length_append]; show 1 + 1 + _ ≤ _; lia, by lia, by wtm_at "pvl", by wtm_at "pvl", by wtm_at "pvl", by wtm_at "pvl", h5, rfl⟩
    · rintro ρ σ' ⟨n, j, t, hx, hj, hj8, ht, hn, h1, h2, h3, h4, h5, rfl⟩
      cases n with
      | succ n => cases hx
      | zero =>
        repeat wtm_at "pvs"
        refine ⟨_, Sto.hit, by rw [pss, List.length_map, List.length_map, List.length_range]; lia, ?_⟩
        rw [Sto.over, pss_app]
        repeat wtm_at "pvs"
        refine ⟨i + 1, by lia, rfl, by wtm_at "pvl", by wtm_at "pvl", ?_⟩
        unfold forestL at h5
        rw [List.range_succ, List.map_append, h5]; rfl
    · exact ⟨8, i, _, rfl, by lia, by lia, by decide, by lia, by wtm_at "pvl", by wtm_at "pvl", by wtm_at "pvl", by wtm_at "pvl", rfl, rfl⟩
  · rintro ρ σ' ⟨i, hi, hx, h1, h2, rfl⟩
    have hc : i = 8 := by
      have := congrArg List.length hx
      simp at this; lia
    subst hc
    repeat wtm_at "pvs"
    refine seen_list Sto.hit ?_
    rw [Sto.back ha]
    refine TOp.sorted T (by rw [List.length_map, List.length_range]; decide) fun ys hp hs => ?_
    repeat wtm_at "pvs"
    exact h ys hp hs
  · exact ⟨0, by lia, rfl, by wtm_at "pvl", by wtm_at "pvl", rfl⟩

/-! paths -/
theorem fspath_ok {X : Txt} (G : Good X) {k : Nat} {σ : Sto} {x : Str} {Q : PV → Sto → Prop} (h : Q (.str x) σ) : TOp X (k + 1) (fun vs => PySem.call (.ref 178) vs) [.str x] σ Q := by
  have T := G.ok
  refine TOp.def' T (defFspath G) rfl (TDef.in' fun env hf => ?_)
  dsimp only [bindP, List.zip_cons_cons, List.zip_nil_left]
  repeat wtm_at "pvs"
  exact h
theorem getsep_ok {X : Txt} (G : Good X) {k : Nat} {σ : Sto} {x : Str} {Q : PV → Sto → Prop} (h : Q (.str (Str.ofString "/")) σ) : TOp X (k + 1) (fun vs => PySem.call (.ref 192) vs) [.str x] σ Q := by
  have T := G.ok
  refine TOp.def' T (defGetSep G) rfl (TDef.in' fun env hf => ?_)
  dsimp only [bindP, List.zip_cons_cons, List.zip_nil_left]
  repeat wtm_at "pvs"
  exact h
theorem ifmt_ok {X : Txt} (G : Good X) {k : Nat} {σ : Sto} {m : Int} {Q : PV → Sto → Prop} (h : Q (.int (Builtin.bitAnd m 61440)) σ) : TOp X (k + 1) (fun vs => PySem.call (.ref 218) vs) [.int m] σ Q := by
  have T := G.ok
  refine TOp.def' T (defIfmt G) rfl (TDef.in' fun env hf => ?_)
  dsimp only [bindP, List.zip_cons_cons, List.zip_nil_left]
  repeat wtm_at "pvs"
  exact h
noncomputable def headOf (p : Str) : Str := Txt.slice p none (some (Txt.rfind p (Str.ofString "/") + 1))
noncomputable def dirnameF (p : Str) : Str :=
  if ((headOf p).length : Int) != 0 then (if (headOf p).cps.toList != (Txt.mul (Str.ofString "/") (headOf p).length).cps.toList then Txt.rstripChars (headOf p) (Str.ofString "/") else headOf p) else headOf p
theorem dirname_ok {X : Txt} (G : Good X) {k : Nat} {σ : Sto} {p : Str} {Q : PV → Sto → Prop} (hp : p.length ≤ 1000) (h : Q (.str (dirnameF p)) σ) : TOp X (k + 2) (fun vs => PySem.call (.ref 206) vs) [.str p] σ Q := by
  have T := G.ok
  refine TOp.def' T (defDirname G) rfl (TDef.in' fun env hf => ?_)
  dsimp only [bindP, List.zip_cons_cons, List.zip_nil_left]
  have hh : (headOf p).length ≤ 1000 := Nat.le_trans (slice_size ..) hp
  repeat wtm_at "pvs"
  refine fspath_ok G ?_
  repeat wtm_at "pvs"
  refine getsep_ok G ?_
  repeat wtm_at "pvs"
  refine TOp.sliceS T .none (.int _) ?_
  repeat wtm_at "pvs"
  unfold dirnameF at h
  change Br (((headOf p).length : Int) != 0) _ _
  refine ⟨fun h1 => ?_, fun h1 => ?_⟩
  · rw [if_pos h1] at h
    repeat wtm_at "pvs"
    change TOp X _ _ [_, .int (headOf p).length] _ _
    refine TOp.mulS (by decide) (by omega) (by omega) ?_ (Nat.le_trans (len_mul_one (c := 47) rfl (N := 1000) (by omega)) (by decide))
    repeat wtm_at "pvs"
    change Br ((headOf p).cps.toList != _) _ _
    refine ⟨fun h2 => ?_, fun h2 => ?_⟩
    · rw [if_pos h2] at h
      repeat wtm_at "pvs"
      exact h
    · rw [if_neg (by rw [h2]; exact Bool.false_ne_true)] at h
      repeat wtm_at "pvs"
      exact h
  · rw [if_neg (by rw [h1]; exact Bool.false_ne_true)] at h
    repeat wtm_at "pvs"
    exact h

noncomputable def fdJoin (P : Params) : FuncData := fdOf ((K2 P).lookup 199)
theorem isJoin (P : Params) : (K2 P).lookup 199 = some ⟨.type "function", none, .func (fdJoin P), #[]⟩ := by kernel_rfl
theorem bindJoin (P : Params) (a b : Value) : bindArgs (fdJoin P) ⟨[a, b], []⟩ = (newTuple [b] >>= fun t => pure [(Str.ofString "a", a), (Str.ofString "p", t)]) := by kernel_rfl
noncomputable def joinF (a b : Str) : Str := if Txt.startswith b (Str.ofString "/") || !((a.length : Int) != 0) then b else if Txt.endswith a (Str.ofString "/") then a ++ b else a ++ (Str.ofString "/" ++ b)
theorem join_ok {X : Txt} (G : Good X) {k : Nat} {σ : Sto} {x y : Str} {Q : PV → Sto → Prop} (hx : x.length ≤ 1000) (hy : y.length ≤ 1000) (h : Q (.str (joinF x y)) σ) : TOp X (k + 2) (fun vs => PySem.call (.ref 199) vs) [.str x, .str y] σ Q := by
  have T := G.ok
  refine TOp.defB T (fun qs => qs = [.str x, .tup [.str y]]) (fd := fdJoin X.w.params) (names := [Str.ofString "a", Str.ofString "p"]) (by rw [G.K]; exact isJoin _) rfl (body := bodyOf (fdJoin X.w.params)) (by kernel_rfl) (by kernel_rfl) (by kernel_rfl) (by kernel_rfl)
    (by rw [G.K]; kernel_rfl) ?_ (by kernel_rfl) (by kernel_rfl) (by kernel_rfl) ?_ ?_
  · intro x hx
    simp only [List.mem_cons, List.not_mem_nil, or_false] at hx
    rcases hx with rfl | rfl <;> exact .inl rfl
  · intro A W s vs a R r
    obtain ⟨v1, _, rfl, r1, v2, _, rfl, r2, rfl⟩ := r
    rw [bindJoin]
    refine wpAny_bind (wpAny_newTuple (wpAny_pure ?_) (by show 1 ≤ sizeLine; decide))
    have l := R.le_set (.fro (tupObj [v2] 0))
    refine ⟨W.set s.heap.objs.size (.fro (tupObj [v2] 0)), [.str x, .tup [.str y]], [v1, .ref s.heap.objs.size], l, R.pushFro T rfl s.toks, ?_, rfl, rfl, rfl⟩
    exact ⟨v1, _, rfl, r1.le l, .ref s.heap.objs.size, _, rfl, ⟨_, [v2], 0, rfl, Map.set_self .., by show 1 ≤ sizeLine; decide, v2, _, rfl, r2.le l, rfl⟩, rfl⟩
  · rintro qs rfl ⟨sc, lo, gl, ce, qu, fu, co, fr, bu⟩ hsc hf
    cases hsc
    dsimp only [bindP, List.zip_cons_cons, List.zip_nil_left]
    repeat wtm_at "pvs"
    refine fspath_ok G ?_
    repeat wtm_at "pvs"
    refine getsep_ok G ?_
    repeat wtm_at "pvs"
    refine Exists.intro _ ⟨.inr rfl, ?_⟩
    repeat wtm_at "pvs"
    refine fspath_ok G ?_
    repeat wtm_at "pvs"
    unfold joinF at h
    have hsl := sl_big
    have e1 : (Str.ofString "/").length = 1 := rfl
    refine ⟨fun h1 => ?_, fun h1 => ?_⟩
    · rw [h1] at h
      repeat wtm_at "pvs"
      exact h
    · rw [h1] at h
      repeat wtm_at "pvs"
      refine ⟨fun h2 => ?_, fun h2 => ?_⟩
      · rw [h2] at h
        repeat wtm_at "pvs"
        exact h
      · rw [h2] at h
        repeat wtm_at "pvs"
        refine ⟨fun h3 => ?_, fun h3 => ?_⟩
        · rw [h3] at h
          repeat wtm_at "pvs"
          refine TOp.iaddS (by omega) ?_
          repeat wtm_at "pvs"
          exact h
        · rw [h3] at h
          repeat wtm_at "pvs"
          refine TOp.addS (by omega) ?_
          repeat wtm_at "pvs"
          refine TOp.iaddS (by rw [Str.length_append]; omega) ?_
          repeat wtm_at "pvs"
          exact h

/-! the class's methods -/
theorem bind_all1 {X : Txt} {fd : FuncData} {names : List Str} {ps : List PV} (hb : ∀ (a : Value) S, peek X.K S (bindArgs fd ⟨[a], []⟩) = some (names.zip [a])) (h : names.length = 1) (hl : ps.length = names.length) :
    ∀ (W : Map) (vs : List Value), VRels W ps vs → ∃ us, (∀ S, peek X.K S (bindArgs fd ⟨vs, []⟩) = some (names.zip us)) ∧ VRels W ps us := bind_all (fun vs hv => all1 (C := fun vs => ∀ S, peek X.K S (bindArgs fd ⟨vs, []⟩) = some (names.zip vs)) hb vs (hv.trans h)) hl
theorem bind_all2 {X : Txt} {fd : FuncData} {names : List Str} {ps : List PV} (hb : ∀ (a b : Value) S, peek X.K S (bindArgs fd ⟨[a, b], []⟩) = some (names.zip [a, b])) (h : names.length = 2) (hl : ps.length = names.length) :
    ∀ (W : Map) (vs : List Value), VRels W ps vs → ∃ us, (∀ S, peek X.K S (bindArgs fd ⟨vs, []⟩) = some (names.zip us)) ∧ VRels W ps us := bind_all (fun vs hv => all2 (C := fun vs => ∀ S, peek X.K S (bindArgs fd ⟨vs, []⟩) = some (names.zip vs)) hb vs (hv.trans h)) hl
theorem bind_all3 {X : Txt} {fd : FuncData} {names : List Str} {ps : List PV} (hb : ∀ (a b c : Value) S, peek X.K S (bindArgs fd ⟨[a, b, c], []⟩) = some (names.zip [a, b, c])) (h : names.length = 3) (hl : ps.length = names.length) :
    ∀ (W : Map) (vs : List Value), VRels W ps vs → ∃ us, (∀ S, peek X.K S (bindArgs fd ⟨vs, []⟩) = some (names.zip us)) ∧ VRels W ps us := bind_all (fun vs hv => all3 (C := fun vs => ∀ S, peek X.K S (bindArgs fd ⟨vs, []⟩) = some (names.zip vs)) hb vs (hv.trans h)) hl
theorem fn_at {X : Txt} (G : Good X) {f : Addr} (e : isFn (K2 X.w.params) (.ref f) = true) : isFn X.K (.ref f) = true := by rw [G.K]; exact e
theorem TE.c_push {X : Txt} (G : Good X) {k : Nat} {env : Env} {ρ : Loc} {σ : Sto} {o : Expr} {apos pos : Pos} {args : List Expr} {Q : PV → Sto → Prop}
    (hbase : attributeBase o (Str.ofString "push") env (eval o env) = eval o env) (hn : noStar args = true) (hl : Nat.blt args.length 20 = true) (hline : (apos.endLine == pos.line) = true)
    (h : TE X k env o ρ σ (kOwn X k env (.ref 45) args ρ Q)) :
    TE X k env (.Call (.Attribute o (Str.ofString "push") apos) args [] pos) ρ σ Q :=
  TE.own G.ok (accB G) (f := 45) (find_at G (by kernel_rfl)) (fn_at G (by kernel_rfl)) (G.keep (by kernel_rfl)) (by eq_refl) hbase hn hl hline h
theorem TE.c_pop_from {X : Txt} (G : Good X) {k : Nat} {env : Env} {ρ : Loc} {σ : Sto} {o : Expr} {apos pos : Pos} {args : List Expr} {Q : PV → Sto → Prop}
    (hbase : attributeBase o (Str.ofString "pop_from") env (eval o env) = eval o env) (hn : noStar args = true) (hl : Nat.blt args.length 20 = true) (hline : (apos.endLine == pos.line) = true)
    (h : TE X k env o ρ σ (kOwn X k env (.ref 53) args ρ Q)) :
    TE X k env (.Call (.Attribute o (Str.ofString "pop_from") apos) args [] pos) ρ σ Q :=
  TE.own G.ok (accB G) (f := 53) (find_at G (by kernel_rfl)) (fn_at G (by kernel_rfl)) (G.keep (by kernel_rfl)) (by eq_refl) hbase hn hl hline h
theorem TE.c_pop {X : Txt} (G : Good X) {k : Nat} {env : Env} {ρ : Loc} {σ : Sto} {o : Expr} {apos pos : Pos} {args : List Expr} {Q : PV → Sto → Prop}
    (hbase : attributeBase o (Str.ofString "pop") env (eval o env) = eval o env) (hn : noStar args = true) (hl : Nat.blt args.length 20 = true) (hline : (apos.endLine == pos.line) = true)
    (h : TE X k env o ρ σ (kOwn X k env (.ref 61) args ρ Q)) :
    TE X k env (.Call (.Attribute o (Str.ofString "pop") apos) args [] pos) ρ σ Q :=
  TE.own G.ok (accB G) (f := 61) (find_at G (by kernel_rfl)) (fn_at G (by kernel_rfl)) (G.keep (by kernel_rfl)) (by eq_refl) hbase hn hl hline h
theorem TE.c_reset {X : Txt} (G : Good X) {k : Nat} {env : Env} {ρ : Loc} {σ : Sto} {o : Expr} {apos pos : Pos} {args : List Expr} {Q : PV → Sto → Prop}
    (hbase : attributeBase o (Str.ofString "reset") env (eval o env) = eval o env) (hn : noStar args = true) (hl : Nat.blt args.length 20 = true) (hline : (apos.endLine == pos.line) = true)
    (h : TE X k env o ρ σ (kOwn X k env (.ref 83) args ρ Q)) :
    TE X k env (.Call (.Attribute o (Str.ofString "reset") apos) args [] pos) ρ σ Q :=
  TE.own G.ok (accB G) (f := 83) (find_at G (by kernel_rfl)) (fn_at G (by kernel_rfl)) (G.keep (by kernel_rfl)) (by eq_refl) hbase hn hl hline h
theorem TE.c_part_count {X : Txt} (G : Good X) {k : Nat} {env : Env} {ρ : Loc} {σ : Sto} {o : Expr} {apos pos : Pos} {args : List Expr} {Q : PV → Sto → Prop}
    (hbase : attributeBase o (Str.ofString "part_count") env (eval o env) = eval o env) (hn : noStar args = true) (hl : Nat.blt args.length 20 = true) (hline : (apos.endLine == pos.line) = true)
    (h : TE X k env o ρ σ (kOwn X k env (.ref 98) args ρ Q)) :
    TE X k env (.Call (.Attribute o (Str.ofString "part_count") apos) args [] pos) ρ σ Q :=
  TE.own G.ok (accB G) (f := 98) (find_at G (by kernel_rfl)) (fn_at G (by kernel_rfl)) (G.keep (by kernel_rfl)) (by eq_refl) hbase hn hl hline h
theorem accS {σ : Sto} {a d : Addr} {c e : Cell} (hd : σ d = some e) (ha : σ a = some c) {c' : Cell} (hne : d ≠ a) : (σ.set a (some c')) d = some e := (Sto.skip hne).trans hd
theorem acc_apart {σ : Sto} {a d : Addr} {xs : List PV} {i : Option Int} (ha : σ a = some (.acc d xs)) (hd : σ d = some (.ini i)) : d ≠ a := by rintro rfl; rw [ha] at hd; cases hd
theorem push_ok {X : Txt} (G : Good X) {k : Nat} {σ : Sto} {a d : Addr} {xs : List PV} {i : Option Int} {x y : Str} {Q : PV → Sto → Prop} (ha : σ a = some (.acc d xs)) (hd : σ d = some (.ini i)) (hl : xs.length + 1 ≤ sizeLine)
    (h : Q .none (σ.set a (some (.acc d (xs ++ [row2 (x, y)]))))) : TOp X (k + 1) (fun vs => PySem.call (.ref 45) vs) [.ptr a, .str x, .str y] σ Q := by
  have T := G.ok
  have C := accB G
  refine (atPush G).call T (by rfl) (bind_all3 (fun a b c S => by rw [G.K]; kernel_rfl) (by rfl) (by rfl)) ?_
  rintro ⟨sc, lo, gl, ce, qu, fu, co, fr, bu⟩ ⟨hsc, hfn, hcode, hcells⟩
  cases hsc
  dsimp only [bindP, List.zip_cons_cons, List.zip_nil_left]
  refine TSA.of ?_
  refine TS.cons (T1.expr T (by eq_refl) ?_)
  refine TE.ownB T C C.append (by kernel_rfl) (by eq_refl) (by eq_refl) (by eq_refl) (by eq_refl) (by eq_refl) ?_
  refine TE.raw (.inl (by eq_refl)) (by wtm_at "pvl") (by eq_refl) ⟨a, d, xs, i, rfl, ha, hd, ?_⟩
  repeat wtm_at "pvs"
  refine TOp.appendA T C ha hl ?_
  repeat wtm_at "pvs"
  exact h
theorem pc_ok {X : Txt} (G : Good X) {k : Nat} {σ : Sto} {a d : Addr} {xs : List PV} {i : Option Int} {Q : PV → Sto → Prop} (ha : σ a = some (.acc d xs)) (hd : σ d = some (.ini i))
    (h : Q (.int xs.length) σ) : TOp X (k + 1) (fun vs => PySem.call (.ref 98) vs) [.ptr a] σ Q := by
  have T := G.ok
  have C := accB G
  refine (atPc G).call T (by rfl) (bind_all1 (fun a S => by rw [G.K]; kernel_rfl) (by rfl) (by rfl)) ?_
  rintro ⟨sc, lo, gl, ce, qu, fu, co, fr, bu⟩ ⟨hsc, hfn, hcode, hcells⟩
  cases hsc
  dsimp only [bindP, List.zip_cons_cons, List.zip_nil_left]
  refine TSA.cons (T1A.ret ?_)
  refine TEA.super0 T C (supPc G) ⟨rfl, hfn, hcode, hcells⟩ (sup_len X) (by eq_refl) (by wtm_at "pvl") ha hd (fun A W s R => check_ok (check_len _)) (fun A W s R => ?_)
  exact body_supLen ha h R
theorem pop0_ok {X : Txt} (G : Good X) {k : Nat} {σ : Sto} {a d : Addr} {i : Option Int} {Q : PV → Sto → Prop} (ha : σ a = some (.acc d [])) (hd : σ d = some (.ini i))
    (h : Q (row2 (Str.ofString "", Str.ofString "")) σ) : TOp X (k + 2) (fun vs => PySem.call (.ref 61) vs) [.ptr a] σ Q := by
  have T := G.ok
  have C := accB G
  refine (atPop G).call T (by rfl) (bind_all1 (fun a S => by rw [G.K]; kernel_rfl) (by rfl) (by rfl)) ?_
  rintro ⟨sc, lo, gl, ce, qu, fu, co, fr, bu⟩ ⟨hsc, hfn, hcode, hcells⟩
  cases hsc
  dsimp only [bindP, List.zip_cons_cons, List.zip_nil_left]
  refine TSA.cons (T1A.of (T1.if' ?_))
  refine TT.cmp T (by eq_refl) ?_
  refine TE.c_part_count G (by eq_refl) (by eq_refl) (by eq_refl) (by eq_refl) ?_
  refine TE.raw (.inl (by eq_refl)) (by wtm_at "pvl") (by eq_refl) ⟨a, d, _, i, rfl, ha, hd, ?_⟩
  show TOp X _ _ _ _ _
  refine pc_ok G ha hd ?_
  repeat wtm_at "pvs"
  rw [show ((([] : List PV).length : Int) == 0) = true from rfl]
  repeat wtm_at "pvs"
  exact h
theorem pop_ok {X : Txt} (G : Good X) {k : Nat} {σ : Sto} {a d : Addr} {xs : List PV} {p : PV} {i : Option Int} {Q : PV → Sto → Prop} (ha : σ a = some (.acc d (xs ++ [p]))) (hd : σ d = some (.ini i))
    (h : Q p (σ.set a (some (.acc d xs)))) : TOp X (k + 2) (fun vs => PySem.call (.ref 61) vs) [.ptr a] σ Q := by
  have T := G.ok
  have C := accB G
  refine (atPop G).call T (by rfl) (bind_all1 (fun a S => by rw [G.K]; kernel_rfl) (by rfl) (by rfl)) ?_
  rintro ⟨sc, lo, gl, ce, qu, fu, co, fr, bu⟩ ⟨hsc, hfn, hcode, hcells⟩
  cases hsc
  dsimp only [bindP, List.zip_cons_cons, List.zip_nil_left]
  refine TSA.cons (T1A.of (T1.if' ?_))
  refine TT.cmp T (by eq_refl) ?_
  refine TE.c_part_count G (by eq_refl) (by eq_refl) (by eq_refl) (by eq_refl) ?_
  refine TE.raw (.inl (by eq_refl)) (by wtm_at "pvl") (by eq_refl) ⟨a, d, _, i, rfl, ha, hd, ?_⟩
  show TOp X _ _ _ _ _
  refine pc_ok G ha hd ?_
  repeat wtm_at "pvs"
  rw [show (((xs ++ [p]).length : Int) == 0) = false by simp; omega]
  repeat wtm_at "pvs"
  refine TSA.cons (T1A.ret ?_)
  refine TEA.super0 T C (supPop G) ⟨rfl, hfn, hcode, hcells⟩ (sup_pop X) (by eq_refl) (by wtm_at "pvl") ha hd (fun A W s R => ?_) (fun A W s R => body_supPop T ha h R)
  obtain ⟨vs, n, es, m, hW, hV, h1, z, q, h2, i2, I⟩ := acc_inst R ha hd
  exact check_pop C (R.K T) h1 (by rw [G.K, G.acc]; kernel_rfl) (fun cd hc => by
    rw [G.K, G.acc] at hc
    have e : (clsIn (K2 X.w.params) 101).map (·.qualname) = some ("_Accumulator" : Str) := by kernel_rfl
    rw [hc] at e; exact Option.some.inj e)
theorem new_ok {X : Txt} (G : Good X) {k : Nat} {σ : Sto} {Q : PV → Sto → Prop} (h : ∀ a d, σ a = none → σ d = none → a ≠ d → Q (.ptr a) ((σ.set d (some (.ini (some 0)))).set a (some (.acc d [])))) :
    TOp X (k + 3) (fun vs => PySem.call (.ref 101) vs) [] σ Q := by
  have T := G.ok
  have C := accB G
  have e := G.acc
  rw [← e]
  refine TOp.newA T (lm G) (fun a d ha hd had A W s vs aa R r => ?_)
  refine (atInit G).codeAny (k := k) (qs := [.ptr a, .int 0]) T (by rfl) (fun W vs r => ?_) ?_ (aa.less (by omega)) R r
  · obtain ⟨v, _, rfl, rfl, rfl⟩ := r
    exact ⟨[.ref a, .int 0 210], by rw [G.K]; intro S; kernel_rfl, ⟨_, _, rfl, rfl, _, _, rfl, ⟨_, rfl⟩, rfl⟩⟩
  rintro ⟨sc, lo, gl, ce, qu, fu, co, fr, bu⟩ ⟨hsc, hfn, hcode, hcells⟩
  cases hsc
  dsimp only [bindP, List.zip_cons_cons, List.zip_nil_left]
  have h1 : ((σ.set d (some (.ini none))).set a (some (.acc d []))) a = some (.acc d []) := Sto.hit
  have h2 : ((σ.set d (some (.ini none))).set a (some (.acc d []))) d = some (.ini none) := (Sto.skip (Ne.symm had)).trans Sto.hit
  refine TSA.cons (T1A.of (T1.iniSet T C.toAccCls (by eq_refl) ?_))
  refine TE.loc T (by eq_refl) (by wtm_at "pvl") (by eq_refl) ?_
  refine TE.raw (.inl (by eq_refl)) (by wtm_at "pvl") (by eq_refl) ⟨0, a, d, [], none, rfl, rfl, h1, h2, ?_⟩
  have h3 : (((σ.set d (some (.ini none))).set a (some (.acc d []))).set d (some (.ini (some 0)))) = (σ.set d (some (.ini (some 0)))).set a (some (.acc d [])) := by
    rw [Sto.swap had.symm.symm, Sto.over]
  dsimp only
  rw [h3]
  refine TSA.cons (T1A.expr (by eq_refl) ?_)
  have h4 : ((σ.set d (some (.ini (some 0)))).set a (some (.acc d []))) d = some (.ini (some 0)) := (Sto.skip (Ne.symm had)).trans Sto.hit
  refine TEA.super0 T C (supInit G) ⟨rfl, hfn, hcode, hcells⟩ (sup_init X) (by eq_refl) (by wtm_at "pvl") (xs := []) (d := d) (a := a) Sto.hit h4 (fun A W s R => check_ok (check_init _)) (fun A W s R => ?_)
  refine body_supInit T Sto.hit ?_ R
  refine TSA.of (TS.nil ?_)
  exact ⟨rfl, h a d ha hd had⟩

noncomputable def strIn (K : Frag) (n : Str) (x : Str) : Bool := match nsIn K mainGlobals n with
  | some (some (.str y _)) => x == y
  | _ => false
theorem ex_str {K : Frag} {n x : Str} (h : strIn K n x = true) : ∃ t, nsIn K mainGlobals n = some (some (.str x t)) := by
  unfold strIn at h
  split at h
  · rename_i y t e; rw [beq_iff_eq] at h; subst h; exact ⟨t, e⟩
  · cases h
theorem g_empty {X : Txt} (G : Good X) : ∃ t, X.glob (Str.ofString "EMPTYSTRING") = some (.str Str.empty t) := by
  obtain ⟨t, e⟩ := ex_str (K := K2 X.w.params) (n := Str.ofString "EMPTYSTRING") (x := Str.empty) (by kernel_rfl)
  exact ⟨t, G.glob e⟩

theorem popfrom_ok {X : Txt} (G : Good X) {k : Nat} {σ : Sto} {a d : Addr} {xs : List PV} {i : Option Int} {n : Nat} {Q : PV → Sto → Prop} (ha : σ a = some (.acc d xs)) (hd : σ d = some (.ini i)) (hn : n ≤ xs.length) (hl : xs.length ≤ sizeLine)
    (h : Q (.lst (xs.drop n)) (σ.set a (some (.acc d (xs.take n))))) : TOp X (k + 1) (fun vs => PySem.call (.ref 53) vs) [.ptr a, .int n] σ Q := by
  have T := G.ok
  have C := accB G
  refine (atPopFrom G).call T (by rfl) (bind_all2 (fun a b S => by rw [G.K]; kernel_rfl) (by rfl) (by rfl)) ?_
  rintro ⟨sc, lo, gl, ce, qu, fu, co, fr, bu⟩ ⟨hsc, hfn, hcode, hcells⟩
  cases hsc
  dsimp only [bindP, List.zip_cons_cons, List.zip_nil_left]
  refine TSA.of ?_
  refine TS.cons (T1.assign T (by eq_refl) (by eq_refl) ?_)
  refine TE.sub T (TE.raw (.inl (by eq_refl)) (by wtm_at "pvl") (by eq_refl) ?_)
  repeat wtm_at "pvs"
  refine TOp.sliceA T C ha (.int _) .none .none (by decide) ?_
  rw [pick_from xs n hn]
  repeat wtm_at "pvs"
  refine TAsg.sliceA T C (TE.raw (.inl (by eq_refl)) (by wtm_at "pvl") (by eq_refl) ?_) (lo := some (n : Int)) (hi := none)
  repeat wtm_at "pvs"
  refine ⟨a, d, xs, _, _, rfl, rfl, .int _, .none, ha, by simp; omega, rfl, ?_, ?_⟩
  · rw [cut_from xs n hn]; simp; omega
  rw [cut_from xs n hn]
  repeat wtm_at "pvs"
  exact h
theorem reset_ok {X : Txt} (G : Good X) {k : Nat} {σ : Sto} {a d : Addr} {xs ys : List PV} {i : Option Int} {Q : PV → Sto → Prop} (ha : σ a = some (.acc d xs)) (hd : σ d = some (.ini i)) (hl : xs.length + ys.length ≤ sizeLine)
    (h : Q .none ((σ.set a (some (.acc d ys))).set d (some (.ini (some 0))))) : TOp X (k + 1) (fun vs => PySem.call (.ref 83) vs) [.ptr a, .lst ys] σ Q := by
  have T := G.ok
  have C := accB G
  refine (atReset G).call T (by rfl) (bind_all2 (fun a b S => by rw [G.K]; kernel_rfl) (by rfl) (by rfl)) ?_
  rintro ⟨sc, lo, gl, ce, qu, fu, co, fr, bu⟩ ⟨hsc, hfn, hcode, hcells⟩
  cases hsc
  dsimp only [bindP, List.zip_cons_cons, List.zip_nil_left]
  refine TSA.of ?_
  repeat wtm_at "pvs"
  refine TE.none' ?_
  refine TOp.isNoneL ?_
  repeat wtm_at "pvs"
  refine TAsg.sliceA T C (TE.raw (.inl (by eq_refl)) (by wtm_at "pvl") (by eq_refl) ?_) (lo := none) (hi := none)
  repeat wtm_at "pvs"
  refine ⟨a, d, xs, _, _, rfl, rfl, .none, .none, ha, hl, rfl, ?_, ?_⟩
  · rw [cut_all]; omega
  rw [cut_all]
  refine TS.cons (T1.iniSet T C.toAccCls (by eq_refl) ?_)
  refine TE.int ?_
  refine TE.raw (.inl (by eq_refl)) (by wtm_at "pvl") (by eq_refl) ⟨0, a, d, ys, i, rfl, rfl, Sto.hit, (Sto.skip (acc_apart ha hd)).trans hd, ?_⟩
  repeat wtm_at "pvs"
  exact h
theorem len_ok' {X : Txt} (G : Good X) {k : Nat} {σ : Sto} {a d : Addr} {rows : List (Str × Str)} {n : Int} {Q : PV → Sto → Prop} (ha : σ a = some (.acc d (rows.map row2))) (hd : σ d = some (.ini (some n))) (hsh : ∀ r ∈ rows, r.1.length ≤ 1000 ∧ r.2.length ≤ 1000)
    (h : Q (.int (n + lens rows)) σ) : TOp X (k + 2) (fun vs => PySem.call (.ref 68) vs) [.ptr a] σ Q := by
  have T := G.ok
  have C := accB G
  refine (atLen G).call T (by rfl) (bind_all1 (fun a S => by rw [G.K]; kernel_rfl) (by rfl) (by rfl)) ?_
  rintro ⟨sc, lo, gl, ce, qu, fu, co, fr, bu⟩ ⟨hsc, hfn, hcode, hcells⟩
  cases hsc
  dsimp only [bindP, List.zip_cons_cons, List.zip_nil_left]
  refine TSA.of ?_
  refine TS.cons (T1.ret ?_)
  refine TE.lenSum T C G.mod (genLen G) ⟨rfl, hfn, hcode, hcells⟩ rfl (by decide +kernel) (by decide +kernel) rfl rfl rfl (by decide) rfl (elem_len rfl rfl rfl rfl (b_len G) (by decide) (by decide)) (by eq_refl) (by wtm_at "pvl") ha hd hsh (by eq_refl) (b_sum G) (by eq_refl) h
theorem str_ok' {X : Txt} (G : Good X) {k : Nat} {σ : Sto} {a d : Addr} {rows : List (Str × Str)} {Q : PV → Sto → Prop} (ha : σ a = some (.acc d (rows.map row2))) (hsh : ∀ r ∈ rows, r.1.length ≤ 1000 ∧ r.2.length ≤ 1000) (hfew : rows.length ≤ 40)
    (h : Q (.str (glue rows)) σ) : TOp X (k + 2) (fun vs => PySem.call (.ref 75) vs) [.ptr a] σ Q := by
  have T := G.ok
  have C := accB G
  refine (atStr G).call T (by rfl) (bind_all1 (fun a S => by rw [G.K]; kernel_rfl) (by rfl) (by rfl)) ?_
  rintro ⟨sc, lo, gl, ce, qu, fu, co, fr, bu⟩ ⟨hsc, hfn, hcode, hcells⟩
  cases hsc
  dsimp only [bindP, List.zip_cons_cons, List.zip_nil_left]
  refine TSA.of ?_
  refine TS.cons (T1.ret ?_)
  obtain ⟨tk, htk⟩ := g_empty G
  refine TE.joinGen T C G.mod (genStr G) ⟨rfl, hfn, hcode, hcells⟩ rfl (by decide +kernel) (by decide +kernel) rfl rfl rfl (by decide) rfl (elem_join rfl rfl rfl rfl htk (by decide) (by decide) (by decide) (by eq_refl)) (by eq_refl) (by wtm_at "pvl") ha hsh hfew (by eq_refl) htk (by eq_refl) (by eq_refl) h

/-! _law_read -/
noncomputable def e0 : Str := Str.ofString ""
noncomputable def slash : Str := Str.ofString "/"
noncomputable def rstep (r : Str × Str) (s : List Str × List (Str × Str)) : List Str × List (Str × Str) :=
  let top := s.2.getLast?.getD (e0, e0)
  let room2 := if (top.2.length : Int) > 1 then s.2.dropLast ++ [(top.1, Txt.slice top.2 (some 1) none)] else s.2.dropLast
  let path := joinF (if ((top.1.length : Int) != 0) = true then top.1 else slash) r.2
  (s.1 ++ [path], if Txt.count r.1 (Str.ofString "x") > 0 then room2 ++ [(path, Txt.mul (Str.ofString "o") (Txt.count r.1 (Str.ofString "x")))] else room2)
noncomputable def rfold : List (Str × Str) → List Str × List (Str × Str) → List Str × List (Str × Str)
  | [], s => s
  | r :: rs, s => rfold rs (rstep r s)
noncomputable def readF (rows : List (Str × Str)) : List Str × List (Str × Str) := rfold rows ([], [])
/-- what holds of the room after n rows -/
structure RoomOk (n : Nat) (s : List Str × List (Str × Str)) : Prop where
  paths : s.1.length = n
  plen : ∀ p ∈ s.1, p.length ≤ 2 * n
  few : s.2.length ≤ n
  room : ∀ r ∈ s.2, r.1.length ≤ 2 * n ∧ r.2.length ≤ 3
theorem join_len0 (a b : Str) : (joinF a b).length ≤ a.length + 1 + b.length := by
  have e1 : (Str.ofString "/").length = 1 := rfl
  unfold joinF
  split
  · lia
  · split
    · rw [Str.length_append]; lia
    · rw [Str.length_append, Str.length_append, e1]; lia
theorem join_slash (b : Str) : (joinF slash b).length ≤ 1 + b.length := by
  unfold joinF
  split
  · lia
  · rw [if_pos (by decide : Txt.endswith slash (Str.ofString "/") = true), Str.length_append, show slash.length = 1 from rfl]; lia
theorem join_len2 (a b : Str) (hb : b.length ≤ 1) : (joinF (if ((a.length : Int) != 0) = true then a else slash) b).length ≤ a.length + 2 := by
  split
  · have := join_len0 a b; lia
  · have := join_slash b; lia
theorem slice1_len (x : Str) : (Txt.slice x (some 1) none).length ≤ x.length := slice_size ..
theorem mulO3 {n : Int} (h0 : 0 ≤ n) (h : n ≤ 3) : (Txt.mul (Str.ofString "o") n).length ≤ 3 := mulO_len n (by lia) h
theorem rstep_ok {n : Nat} {r : Str × Str} {s : List Str × List (Str × Str)} (h : RoomOk n s) (hr : r.2.length ≤ 1) (hc : 0 ≤ Txt.count r.1 (Str.ofString "x") ∧ Txt.count r.1 (Str.ofString "x") ≤ 3) : RoomOk (n + 1) (rstep r s) := by
  have ht : (s.2.getLast?.getD (e0, e0)).1.length ≤ 2 * n ∧ (s.2.getLast?.getD (e0, e0)).2.length ≤ 3 := by
    cases e : s.2.getLast? with
    | none => exact ⟨by show 0 ≤ _; lia, by show 0 ≤ _; lia⟩
    | some t => exact h.room t (List.mem_of_getLast? e)
  have hp := join_len2 (s.2.getLast?.getD (e0, e0)).1 r.2 hr
  have hd : ∀ t ∈ s.2.dropLast, t.1.length ≤ 2 * n ∧ t.2.length ≤ 3 := fun t ht => h.room t (List.dropLast_subset _ ht)
  have hf := h.few
  have h2 : ∀ t ∈ (if ((s.2.getLast?.getD (e0, e0)).2.length : Int) > 1 then s.2.dropLast ++ [((s.2.getLast?.getD (e0, e0)).1, Txt.slice (s.2.getLast?.getD (e0, e0)).2 (some 1) none)] else s.2.dropLast), t.1.length ≤ 2 * n ∧ t.2.length ≤ 3 := by
    intro t
    split
    · intro hm
      rcases List.mem_append.mp hm with hm | hm
      · exact hd t hm
      · obtain rfl := List.mem_singleton.mp hm
        have := slice1_len (s.2.getLast?.getD (e0, e0)).2
        exact ⟨ht.1, by dsimp only; lia⟩
    · exact hd t
  have h3 : (if ((s.2.getLast?.getD (e0, e0)).2.length : Int) > 1 then s.2.dropLast ++ [((s.2.getLast?.getD (e0, e0)).1, Txt.slice (s.2.getLast?.getD (e0, e0)).2 (some 1) none)] else s.2.dropLast).length ≤ n := by
    cases e : s.2.getLast? with
    | none =>
      have : s.2 = [] := List.getLast?_eq_none_iff.mp e
      rw [this]
      have e1 : ((Option.getD (none : Option (Str × Str)) (e0, e0)).2.length : Int) = 0 := rfl
      rw [e1, if_neg (by decide)]
      simp
    | some t =>
      have : s.2 ≠ [] := by rintro h; rw [h] at e; cases e
      have hl : 0 < s.2.length := List.length_pos_iff.mpr this
      split
      · simp; lia
      · simp; lia
  refine ⟨?_, fun p hm => ?_, ?_, fun t hm => ?_⟩
  · simp [rstep, h.paths]
  · simp only [rstep, List.mem_append, List.mem_singleton] at hm
    rcases hm with hm | rfl
    · have := h.plen p hm; lia
    · lia
  · simp only [rstep]
    split
    · rw [List.length_append, List.length_singleton]; lia
    · lia
  · simp only [rstep] at hm
    split at hm
    · rcases List.mem_append.mp hm with hm | hm
      · have := h2 t hm; lia
      · obtain rfl := List.mem_singleton.mp hm
        exact ⟨by dsimp only; lia, mulO3 hc.1 hc.2⟩
    · have := h2 t hm; lia
noncomputable def readV (s : List Str × List (Str × Str)) : PV := .lst [.lst (pss s.1), .lst (pairs s.2), .str (wholeOf s.2), .int (wholeOf s.2).length, .int s.2.length]
theorem join_sum : ∀ xs : List Str, ((Str.join Str.empty xs).length : Int) = (xs.map fun x => (x.length : Int)).sum
  | [] => rfl
  | [x] => by simp [Str.join]
  | x :: y :: r => by
    have ih := join_sum (y :: r)
    have e : Str.join Str.empty (x :: y :: r) = x ++ Str.empty ++ Str.join Str.empty (y :: r) := rfl
    rw [e, Str.append_empty, Str.length_append, List.map_cons, List.sum_cons, ← ih]
    lia
theorem glue_whole (l : List (Str × Str)) : glue l = wholeOf l := by
  unfold glue wholeOf
  rw [show Str.ofString "" = Str.empty from by decide]
theorem lens_whole (l : List (Str × Str)) : lens l = (wholeOf l).length := by
  rw [← glue_whole]
  unfold lens glue
  rw [join_sum, List.map_map]
  congr 1
  refine List.map_congr_left fun r _ => ?_
  simp only [Function.comp, Str.length_append]
  lia

noncomputable def s3 (σ : Sto) (d a b : Addr) (room : List (Str × Str)) (paths : List Str) : Sto := ((σ.set d (some (.ini (some 0)))).set a (some (.acc d (room.map row2)))).set b (some (.list (pss paths)))
section
variable {σ : Sto} {d a b : Addr} {room room' : List (Str × Str)} {paths paths' : List Str}
theorem s3_a (hba : b ≠ a) : s3 σ d a b room paths a = some (.acc d (room.map row2)) := (Sto.skip (Ne.symm hba)).trans Sto.hit
theorem s3_d (had : a ≠ d) (hbd : b ≠ d) : s3 σ d a b room paths d = some (.ini (some 0)) := (Sto.skip (Ne.symm hbd)).trans ((Sto.skip (Ne.symm had)).trans Sto.hit)
theorem s3_b : s3 σ d a b room paths b = some (.list (pss paths)) := Sto.hit
theorem s3_setA (hba : b ≠ a) : (s3 σ d a b room paths).set a (some (.acc d (room'.map row2))) = s3 σ d a b room' paths := by
  unfold s3; rw [Sto.swap hba, Sto.over]
theorem s3_setB : (s3 σ d a b room paths).set b (some (.list (pss paths'))) = s3 σ d a b room paths' := Sto.over
theorem s3_end (had : a ≠ d) (ha : σ a = none) (hd : σ d = none) (hb : σ b = none) : (((s3 σ d a b room paths).set b none).set a none).set d none = σ := by
  unfold s3
  rw [Sto.over]
  funext x
  unfold Sto.set
  by_cases h1 : x = d
  · subst h1; simp [hd]
  · by_cases h2 : x = a
    · subst h2; simp [h1, ha]
    · by_cases h3 : x = b
      · subst h3; simp [h1, h2, hb]
      · simp [h1, h2, h3]
end
theorem pop_room {X : Txt} (G : Good X) {k : Nat} {σ : Sto} {a d : Addr} {room : List (Str × Str)} {i : Option Int} {Q : PV → Sto → Prop} (ha : σ a = some (.acc d (room.map row2))) (hd : σ d = some (.ini i))
    (h : Q (row2 (room.getLast?.getD (e0, e0))) (σ.set a (some (.acc d (room.dropLast.map row2))))) : TOp X (k + 2) (fun vs => PySem.call (.ref 61) vs) [.ptr a] σ Q := by
  rcases List.eq_nil_or_concat room with rfl | ⟨l, t, rfl⟩
  · refine pop0_ok G (by simpa using ha) hd ?_
    rw [show (([] : List (Str × Str)).dropLast.map row2) = [] from rfl, Sto.same (by simpa using ha)] at h
    exact h
  · rw [List.concat_eq_append] at ha h
    rw [List.map_append] at ha
    refine pop_ok G ha hd ?_
    rw [List.getLast?_append, List.dropLast_concat] at h
    exact h
theorem TE.orStr {X : Txt} (T : X.Ok) {k : Nat} {env : Env} {ρ : Loc} {σ : Sto} {x : Expr} {c : Str} {j : Nat} {p pos : Pos} {Q : PV → Sto → Prop} (hc : c.length ≤ sizeLine)
    (h : TE X k env x ρ σ fun p σ1 => ∃ s, p = .str s ∧ Q (.str (if ((s.length : Int) != 0) = true then s else c)) σ1) : TE X k env (.BoolOp .Or [x, .Constant (.str c) j p] pos) ρ σ Q := by
  refine TE.or2 T (TE.mono h fun p σ1 ⟨s, hp, hq⟩ => ?_)
  subst hp
  refine ⟨_, rfl, ?_⟩
  refine ⟨fun e => ?_, fun e => ?_⟩
  · rw [if_pos e] at hq; exact hq
  · rw [if_neg (by rw [e]; exact Bool.false_ne_true)] at hq; exact TE.str hc hq

theorem rfold_app : ∀ (l : List (Str × Str)) (r : Str × Str) (s : List Str × List (Str × Str)), rfold (l ++ [r]) s = rstep r (rfold l s)
  | [], _, _ => rfl
  | x :: l, r, s => rfold_app l r (rstep x s)
theorem f_str {X : Txt} (G : Good X) : findIn (K2 X.w.params) (.ref 101) "__str__" = some (some (.ref 75)) := by kernel_rfl
theorem f_len {X : Txt} (G : Good X) : findIn (K2 X.w.params) (.ref 101) "__len__" = some (some (.ref 68)) := by kernel_rfl

inductive ReadI (rows : List (Str × Str)) (d a b : Addr) (σ : Sto) (xs : List PV) (ρ : Loc) (σ' : Sto) : Prop
  | mk (done : List (Str × Str)) (todo : List (Str × Str)) (n : Nat) (h1 : rows = done ++ todo) (h2 : xs = todo.map row2) (h3 : n = done.length) (h4 : RoomOk n (rfold done ([], []))) (h5 : ρ (Str.ofString "room") = some (.ptr a)) (h6 : ρ (Str.ofString "paths") = some (.ptr b)) (h7 : σ' = s3 σ d a b (rfold done ([], [])).2 (rfold done ([], [])).1)
theorem read_ok {X : Txt} (G : Good X) {k : Nat} {σ : Sto} {rows : List (Str × Str)} {Q : PV → Sto → Prop} (hl : rows.length ≤ 8) (hr : ∀ r ∈ rows, r.1.length ≤ 100 ∧ r.2.length ≤ 1 ∧ 0 ≤ Txt.count r.1 (Str.ofString "x") ∧ Txt.count r.1 (Str.ofString "x") ≤ 3)
    (h : Q (readV (readF rows)) σ) : TOp X (k + 5) (fun vs => PySem.call (.ref 270) vs) [.lst (rows.map row2)] σ Q := by
  have T := G.ok
  have hsl := sl_big
  have C := accB G
  refine TOp.def' T (defRead G) rfl (TDef.in' fun env hf => ?_)
  dsimp only [bindP, List.zip_cons_cons, List.zip_nil_left]
  wtm_at "pvs"
  refine T1.assign T (by eq_refl) (by eq_refl) (TE.call T (by eq_refl) (fv := .ref 101) (G.glob (by kernel_rfl)) (by eq_refl) (G.keep (by kernel_rfl)) (by eq_refl) ?_)
  show TOp X _ _ _ _ _
  refine new_ok G fun a d ha hd had => ?_
  wtm_at "pvs"
  wtm_at "pvs"
  refine T1.assign T (by eq_refl) (by eq_refl) (TE.lstPtr T (by eq_refl) ⟨len_ok (by eq_refl), fun b hb => ?_⟩)
  wtm_at "pvs"
  have hba : b ≠ a := by rintro rfl; rw [Sto.hit] at hb; cases hb
  have hbd : b ≠ d := by
    rintro rfl
    rw [Sto.skip hba, Sto.hit] at hb; cases hb
  have hb0 : σ b = none := by rw [Sto.skip hba, Sto.skip hbd] at hb; exact hb
  repeat wtm_at "pvs"
  refine ⟨rows.map row2, .inl rfl, ?_⟩
  refine TFor.inv (ReadI rows d a b σ) ?_ ?_ ?_
  · rintro x xs ρ σ' ⟨done, todo, n, rfl, hx, rfl, hok, h1, h2, rfl⟩
    cases todo with
    | nil => cases hx
    | cons r todo =>
      obtain ⟨rfl, rfl⟩ := List.cons.inj hx
      obtain ⟨hr1, hr2, hr3, hr4⟩ := hr r (by simp)
      have hlen : done.length ≤ 7 := by simp at hl; lia
      generalize hS : rfold done ([], []) = S at hok ⊢
      have hok' := rstep_ok hok hr2 ⟨hr3, hr4⟩
      repeat wtm_at "pvs"
      refine TE.c_pop G (by eq_refl) (by eq_refl) (by eq_refl) (by eq_refl) ?_
      refine TE.raw (.inl (by eq_refl)) (by wtm_at "pvl") (by eq_refl) ⟨a, d, _, _, rfl, s3_a hba, s3_d had hbd, ?_⟩
      show TOp X _ _ _ _ _
      refine pop_room G (s3_a hba) (s3_d had hbd) ?_
      rw [s3_setA hba]
      have ht : (S.2.getLast?.getD (e0, e0)).1.length ≤ 16 ∧ (S.2.getLast?.getD (e0, e0)).2.length ≤ 3 := by
        cases e : S.2.getLast? with
        | none => exact ⟨by decide, by decide⟩
        | some t => have := hok.room t (List.mem_of_getLast? e); exact ⟨by dsimp only [Option.getD]; lia, this.2⟩
      have hdl : S.2.dropLast.length ≤ 7 := by have := hok.few; simp; lia
      generalize hT : S.2.getLast?.getD (e0, e0) = t at ht ⊢
      wtm_at "pvs"
      wtm_at "pvs"
      wtm_at "pvs"
      refine TS.cons (T1.mono (Q := fun c ρ' σ' => c = .next ∧ ρ' (Str.ofString "room") = some (.ptr a) ∧ ρ' (Str.ofString "paths") = some (.ptr b) ∧ ρ' (Str.ofString "row") = some (.str r.1) ∧ ρ' (Str.ofString "name") = some (.str r.2) ∧ ρ' (Str.ofString "folder") = some (.str t.1) ∧
        σ' = s3 σ d a b (if (t.2.length : Int) > 1 then S.2.dropLast ++ [(t.1, Txt.slice t.2 (some 1) none)] else S.2.dropLast) S.1) ?_ ?_)
      · repeat wtm_at "pvs"
        refine ite_dec (fun hm => ?_) fun hm => ?_
        · rw [if_pos hm]
          wtm_at "pvs"
          refine T1.expr T (by eq_refl) ?_
          refine TE.c_push G (by eq_refl) (by eq_refl) (by eq_refl) (by eq_refl) ?_
          refine TE.raw (.inl (by eq_refl)) (by wtm_at "pvl") (by eq_refl) ⟨a, d, _, _, rfl, s3_a hba, s3_d had hbd, ?_⟩
          repeat wtm_at "pvs"
          refine TOp.sliceS T (.int _) .none ?_
          repeat wtm_at "pvs"
          refine push_ok G (s3_a hba) (s3_d had hbd) (by rw [List.length_map]; lia) ?_
          rw [← List.map_singleton (f := row2), ← List.map_append, s3_setA hba]
          repeat wtm_at "pvs"
          exact ⟨rfl, by wtm_at "pvl", by wtm_at "pvl", by wtm_at "pvl", by wtm_at "pvl", by wtm_at "pvl", rfl⟩
        · rw [if_neg hm]
          repeat wtm_at "pvs"
          exact ⟨rfl, by wtm_at "pvl", by wtm_at "pvl", by wtm_at "pvl", by wtm_at "pvl", by wtm_at "pvl", rfl⟩
      · rintro c ρ' σ' ⟨rfl, g1, g2, g3, g4, g5, rfl⟩
        have hro : (rstep r S).2 = if Txt.count r.1 (Str.ofString "x") > 0 then (if (t.2.length : Int) > 1 then S.2.dropLast ++ [(t.1, Txt.slice t.2 (some 1) none)] else S.2.dropLast) ++ [((joinF (if ((t.1.length : Int) != 0) = true then t.1 else slash) r.2), Txt.mul (Str.ofString "o") (Txt.count r.1 (Str.ofString "x")))] else (if (t.2.length : Int) > 1 then S.2.dropLast ++ [(t.1, Txt.slice t.2 (some 1) none)] else S.2.dropLast) := by
          simp only [rstep, hT]
        have hpa : (rstep r S).1 = S.1 ++ [joinF (if ((t.1.length : Int) != 0) = true then t.1 else slash) r.2] := by simp only [rstep, hT]
        have hr2l : (if (t.2.length : Int) > 1 then S.2.dropLast ++ [(t.1, Txt.slice t.2 (some 1) none)] else S.2.dropLast).length ≤ 8 := by split <;> simp <;> have := hok.few <;> lia
        generalize (if (t.2.length : Int) > 1 then S.2.dropLast ++ [(t.1, Txt.slice t.2 (some 1) none)] else S.2.dropLast) = room2 at hro hr2l ⊢
        have hpl : S.1.length ≤ 8 := by rw [hok.paths]; lia
        have hjo := join_len2 t.1 r.2 hr2
        refine TS.cons (T1.append T (.inl (by eq_refl)) g2 (by eq_refl) (by eq_refl) (by eq_refl) (by eq_refl) s3_b ?_)
        refine TE.call T (by eq_refl) (by wtm_at "pvg") (by eq_refl) (by wtm_at "pvk") (by eq_refl) ?_
        refine TE.orStr T (by decide) ?_
        refine TE.loc T (by eq_refl) g5 (by eq_refl) ⟨_, rfl, ?_⟩
        refine TE.loc T (by eq_refl) g4 (by eq_refl) ?_
        show TOp X _ _ _ _ _
        refine join_ok G (by split <;> first | lia | decide) (by lia) ?_
        refine ⟨_, s3_b, by rw [pss, List.length_map]; lia, ?_⟩
        rw [pss_app, s3_setB]
        generalize hJ : joinF (if ((t.1.length : Int) != 0) = true then t.1 else Str.ofString "/") r.2 = path
        have hJ' : joinF (if ((t.1.length : Int) != 0) = true then t.1 else slash) r.2 = path := hJ
        rw [hJ'] at hro hpa
        repeat wtm_at "pvs"
        have hfin : rfold (done ++ [r]) ([], []) = rstep r S := by rw [← hS]; exact rfold_app done r _
        refine ite_dec (fun hm => ?_) fun hm => ?_
        · rw [if_pos hm] at hro
          wtm_at "pvs"
          refine T1.expr T (by eq_refl) ?_
          refine TE.c_push G (by eq_refl) (by eq_refl) (by eq_refl) (by eq_refl) ?_
          refine TE.raw (.inl (by eq_refl)) g1 (by eq_refl) ⟨a, d, _, _, rfl, s3_a hba, s3_d had hbd, ?_⟩
          refine TE.subP T (.inl (by eq_refl)) g2 (by eq_refl) ?_
          repeat wtm_at "pvs"
          refine ⟨_, _, _, rfl, s3_b, (by unfold pss; rw [List.map_append]; exact idx_last), ?_⟩
          repeat wtm_at "pvs"
          refine TOp.mulS (by decide) (by lia) (by lia) ?_ (by have := mulO3 hr3 hr4; lia)
          repeat wtm_at "pvs"
          refine push_ok G (s3_a hba) (s3_d had hbd) (by rw [List.length_map]; lia) ?_
          rw [← List.map_singleton (f := row2), ← List.map_append, s3_setA hba]
          repeat wtm_at "pvs"
          refine ⟨done ++ [r], todo, done.length + 1, by simp, rfl, by simp, by rw [hfin]; exact hok', by wtm_at "pvl", by wtm_at "pvl", ?_⟩
          rw [hfin, hro, hpa]
        · rw [if_neg hm] at hro
          repeat wtm_at "pvs"
          refine ⟨done ++ [r], todo, done.length + 1, by simp, rfl, by simp, by rw [hfin]; exact hok', by wtm_at "pvl", by wtm_at "pvl", ?_⟩
          rw [hfin, hro, hpa]
  · rintro ρ σ' ⟨done, todo, n, rfl, hx, rfl, hok, h1, h2, rfl⟩
    cases todo with
    | cons r todo => cases hx
    | nil =>
      simp only [List.append_nil] at hl hr h
      have hfew := hok.few
      have hroom := hok.room
      have hpl := hok.paths
      unfold readF at h
      generalize rfold done ([], []) = S at hok hfew hroom hpl h ⊢
      refine TS.nil ?_
      refine TS.cons (T1.ret ?_)
      refine TE.post_drop T d ?_
      refine TE.post_drop T a ?_
      refine TE.lst T (by eq_refl) ?_
      refine TE.loc T (by eq_refl) h2 (by eq_refl) (seen_list s3_b ?_)
      refine TE.sub T (TE.raw (.inl (by eq_refl)) h1 (by eq_refl) ?_)
      have ga : ((s3 σ d a b S.2 S.1).set b none) a = some (.acc d (S.2.map row2)) := (Sto.skip (Ne.symm hba)).trans (s3_a hba)
      have gd : ((s3 σ d a b S.2 S.1).set b none) d = some (.ini (some 0)) := (Sto.skip (Ne.symm hbd)).trans (s3_d had hbd)
      have hsh : ∀ r ∈ S.2, r.1.length ≤ 1000 ∧ r.2.length ≤ 1000 := fun r hr => by have := hroom r hr; lia
      refine TE.slice T ?_
      refine TOp.sliceA T C ga .none .none .none (by decide) ?_
      rw [pick_all]
      refine TE.call T (by eq_refl) (by wtm_at "pvg") (by eq_refl) (by wtm_at "pvk") (by eq_refl) ?_
      refine TE.raw (.inl (by eq_refl)) h1 (by eq_refl) ?_
      show TOp X _ _ _ _ _
      refine TOp.strA T (find_at G (f_str G)) (fn_at G (by kernel_rfl)) ga gd (str_ok' G ga hsh (by lia) ⟨_, rfl, ?_⟩)
      refine TE.call T (by eq_refl) (by wtm_at "pvg") (by eq_refl) (by wtm_at "pvk") (by eq_refl) ?_
      refine TE.raw (.inl (by eq_refl)) h1 (by eq_refl) ?_
      show TOp X _ _ _ _ _
      have hw : lens S.2 = (wholeOf S.2).length := lens_whole _
      have hwl : (wholeOf S.2).length ≤ 1000 := by
        rw [← glue_whole]
        have := join_len Str.empty 20 (S.2.map fun r => r.1 ++ r.2) (fun x hx => by
          obtain ⟨r, hr, rfl⟩ := List.mem_map.mp hx
          have := hroom r hr
          rw [Str.length_append]; lia)
        have e0 : (Str.empty : Str).length = 0 := rfl
        rw [List.length_map, e0, Nat.add_zero] at this
        unfold glue
        lia
      refine TOp.lenA T (find_at G (f_len G)) (fn_at G (by kernel_rfl)) ga gd (len_ok' G ga gd hsh ⟨_, rfl, by lia, by lia, ?_⟩)
      refine TE.c_part_count G (by eq_refl) (by eq_refl) (by eq_refl) (by eq_refl) ?_
      refine TE.raw (.inl (by eq_refl)) h1 (by eq_refl) ⟨a, d, _, _, rfl, ga, gd, ?_⟩
      show TOp X _ _ _ _ _
      refine pc_ok G ga gd ?_
      refine ⟨by show 5 ≤ _; lia, ?_⟩
      dsimp only [kDrop, kRet, kSeq, kDef]
      rw [s3_end had ha hd hb0]
      unfold readV at h
      rw [Int.zero_add, hw, glue_whole, List.length_map]
      exact h
  · exact ⟨[], rows, 0, rfl, rfl, rfl, ⟨rfl, fun p hp => (by cases hp), Nat.le_refl _, fun p hp => (by cases hp)⟩, by wtm_at "pvl", by wtm_at "pvl", rfl⟩

/-! filemode -/
noncomputable abbrev Bits := List (Int × Str)
noncomputable def sg (c : Nat) : Str := ⟨#[c]⟩
noncomputable def fmTable : List Bits := [[(40960, sg 108), (49152, sg 115), (32768, sg 45), (24576, sg 98), (16384, sg 100), (8192, sg 99), (4096, sg 112)], [(256, sg 114)], [(128, sg 119)], [(2112, sg 115), (2048, sg 83), (64, sg 120)],
  [(32, sg 114)], [(16, sg 119)], [(1032, sg 115), (1024, sg 83), (8, sg 120)], [(4, sg 114)], [(2, sg 119)], [(513, sg 116), (512, sg 84), (1, sg 120)]]
noncomputable abbrev bitP (b : Int × Str) : PV := .tup [.int b.1, .str b.2]
noncomputable def bitsP (t : Bits) : PV := .tup (t.map bitP)
noncomputable def tableP : PV := .tup (fmTable.map bitsP)
theorem g_table {X : Txt} (G : Good X) : X.glob (Str.ofString "_filemode_table") = some (.ref 251) := G.glob (by kernel_rfl)
theorem in_table {X : Txt} (G : Good X) : inK X.K tableP (.ref 251) = true := by rw [G.K]; kernel_rfl
/-- the one that is taken -/
noncomputable def fits (i : Nat) (m : Int) (b : Int × Str) : Bool := if i = 0 then Builtin.bitAnd m 61440 == b.1 else Builtin.bitAnd m b.1 == b.1
noncomputable def fmChar (i : Nat) (m : Int) (t : Bits) : Str := match t.find? (fits i m) with
  | some b => b.2
  | none => if i = 0 then sg 63 else sg 45
noncomputable def fmFrom (m : Int) : Nat → List Bits → List Str
  | _, [] => []
  | i, t :: ts => fmChar i m t :: fmFrom m (i + 1) ts
noncomputable def fmRow (m : Int) : Str := Str.join (Str.ofString "") (fmFrom m 0 fmTable)
theorem fm_len (m : Int) : ∀ (ts : List Bits) (i : Nat), (fmFrom m i ts).length = ts.length
  | [], _ => rfl
  | t :: ts, i => by simp [fmFrom, fm_len m ts]
theorem fm_sgl (m : Int) : ∀ (ts : List Bits) (i : Nat), (∀ t ∈ ts, ∀ b ∈ t, b.2.length = 1) → ∀ x ∈ fmFrom m i ts, x.length = 1
  | [], _, _, x, h => by cases h
  | t :: ts, i, ht, x, h => by
    rcases List.mem_cons.mp h with rfl | h
    · unfold fmChar
      split
      · rename_i b e
        exact ht t List.mem_cons_self b (List.mem_of_find?_eq_some e)
      · split <;> rfl
    · exact fm_sgl m ts _ (fun t h => ht t (List.mem_cons_of_mem _ h)) x h
theorem table_sgl : ∀ t ∈ fmTable, ∀ b ∈ t, b.2.length = 1 := by decide
inductive FmJ (m : Int) (i : Nat) (t : Bits) (a : Addr) (got : List Str) (σ : Sto) (ys : List PV) (ρ : Loc) (σ' : Sto) : Prop
  | mk (bs : Bits) (h1 : ys = bs.map bitP) (h2 : t.find? (fits i m) = bs.find? (fits i m)) (h3 : ρ (Str.ofString "mode") = some (.int m)) (h4 : ρ (Str.ofString "perm") = some (.ptr a)) (h5 : ρ (Str.ofString "index") = some (.int i)) (h6 : σ' = σ.set a (some (.list (pss got))))
inductive FmI (m : Int) (a : Addr) (σ : Sto) (xs : List PV) (ρ : Loc) (σ' : Sto) : Prop
  | mk (done todo : List Bits) (i : Nat) (h1 : fmTable = done ++ todo) (h2 : i = done.length) (h3 : xs = enumP i (todo.map bitsP)) (h4 : ρ (Str.ofString "mode") = some (.int m)) (h5 : ρ (Str.ofString "perm") = some (.ptr a)) (got : List Str) (h6 : got.length = i) (h7 : got ++ fmFrom m i todo = fmFrom m 0 fmTable) (h8 : σ' = σ.set a (some (.list (pss got))))
theorem filemode_ok {X : Txt} (G : Good X) {k : Nat} {σ : Sto} {m : Int} {Q : PV → Sto → Prop} (h : Q (.str (fmRow m)) σ) : TOp X (k + 2) (fun vs => PySem.call (.ref 258) vs) [.int m] σ Q := by
  have T := G.ok
  have hsl := sl_big
  refine TOp.def' T (defFilemode G) rfl (TDef.in' fun env hf => ?_)
  dsimp only [bindP, List.zip_cons_cons, List.zip_nil_left]
  wtm_at "pvs"
  refine T1.assign T (by eq_refl) (by eq_refl) (TE.lstPtr T (by eq_refl) ⟨len_ok (by eq_refl), fun a ha => ?_⟩)
  wtm_at "pvs"
  wtm_at "pvs"
  refine T1.forE T (by eq_refl) (by wtm_at "pvg") (by eq_refl) (by eq_refl) ?_
  refine TE.globK T (by eq_refl) (g_table G) (by eq_refl) (in_table G) ⟨_, .inr rfl, ?_⟩
  refine TFor.inv (FmI m a σ) ?_ ?_ ?_
  · rintro x xs ρ σ' ⟨done, todo, i, hT, hi, hx, h1, h2, got, hg, hgot, rfl⟩
    cases todo with
    | nil => cases hx
    | cons t todo =>
      obtain ⟨rfl, rfl⟩ := List.cons.inj hx
      have hlen : got.length < 10 := by
        have := congrArg List.length hT
        simp at this
        have e : fmTable.length = 10 := rfl
        omega
      repeat wtm_at "pvs"
      refine ⟨_, .inr rfl, ?_⟩
      have step : ∀ (c : Str) (ρ' : Loc), fmChar i m t = c → ρ' (Str.ofString "mode") = some (.int m) → ρ' (Str.ofString "perm") = some (.ptr a) →
          FmI m a σ (enumP (i + 1) (todo.map bitsP)) ρ' (σ.set a (some (.list (pss (got ++ [c]))))) := fun c ρ' hc g1 g2 =>
        ⟨done ++ [t], todo, i + 1, by rw [hT]; simp, by simp [hi], rfl, g1, g2, got ++ [c], by simp [hg], by rw [← hgot, ← hc]; simp [fmFrom], rfl⟩
      refine TFor.inv (FmJ m i t a got σ) ?_ ?_ ?_
      · rintro y ys ρ2 σ' ⟨bs, hy, hfind, g1, g2, g3, rfl⟩
        cases bs with
        | nil => cases hy
        | cons b bs =>
          obtain ⟨rfl, rfl⟩ := List.cons.inj hy
          repeat wtm_at "pvs"
          have yes : fits i m b = true → fmChar i m t = b.2 := fun e => by unfold fmChar; rw [hfind, List.find?_cons_of_pos e]
          have no : fits i m b = false → t.find? (fits i m) = bs.find? (fits i m) := fun e => by rw [hfind, List.find?_cons_of_neg (by rw [e]; exact Bool.false_ne_true)]
          refine ite_beq (fun hm => ?_) fun hm => ?_
          · have hi0 : i = 0 := by omega
            have ef : fits i m b = (Builtin.bitAnd m 61440 == b.1) := by unfold fits; rw [if_pos hi0]
            repeat wtm_at "pvs"
            refine ifmt_ok G ?_
            repeat wtm_at "pvs"
            rw [← ef]
            refine ⟨fun e => ?_, fun e => ?_⟩
            · repeat wtm_at "pvs"
              refine ⟨_, Sto.hit, by rw [pss, List.length_map]; omega, ?_⟩
              rw [Sto.over, pss_app]
              repeat wtm_at "pvs"
              exact step _ _ (yes e) (by wtm_at "pvl") (by wtm_at "pvl")
            · repeat wtm_at "pvs"
              exact ⟨bs, rfl, no e, by wtm_at "pvl", by wtm_at "pvl", by wtm_at "pvl", rfl⟩
          · have hi0 : i ≠ 0 := by omega
            have ef : fits i m b = (Builtin.bitAnd m b.1 == b.1) := by unfold fits; rw [if_neg hi0]
            repeat wtm_at "pvs"
            rw [← ef]
            refine ⟨fun e => ?_, fun e => ?_⟩
            · repeat wtm_at "pvs"
              refine ⟨_, Sto.hit, by rw [pss, List.length_map]; omega, ?_⟩
              rw [Sto.over, pss_app]
              repeat wtm_at "pvs"
              exact step _ _ (yes e) (by wtm_at "pvl") (by wtm_at "pvl")
            · repeat wtm_at "pvs"
              exact ⟨bs, rfl, no e, by wtm_at "pvl", by wtm_at "pvl", by wtm_at "pvl", rfl⟩
      · rintro ρ2 σ' ⟨bs, hy, hfind, g1, g2, g3, rfl⟩
        cases bs with
        | cons b bs => cases hy
        | nil =>
          repeat wtm_at "pvs"
          refine ite_beq (fun hm => ?_) fun hm => ?_
          · have hi0 : i = 0 := by omega
            repeat wtm_at "pvs"
            refine ⟨_, Sto.hit, by rw [pss, List.length_map]; omega, ?_⟩
            rw [Sto.over, pss_app]
            repeat wtm_at "pvs"
            exact step _ _ (by unfold fmChar; rw [hfind, if_pos hi0]; rfl) (by wtm_at "pvl") (by wtm_at "pvl")
          · have hi0 : i ≠ 0 := by omega
            repeat wtm_at "pvs"
            refine ⟨_, Sto.hit, by rw [pss, List.length_map]; omega, ?_⟩
            rw [Sto.over, pss_app]
            repeat wtm_at "pvs"
            exact step _ _ (by unfold fmChar; rw [hfind, if_neg hi0]; rfl) (by wtm_at "pvl") (by wtm_at "pvl")
      · exact ⟨t, rfl, rfl, by wtm_at "pvl", by wtm_at "pvl", by wtm_at "pvl", rfl⟩
  · rintro ρ σ' ⟨done, todo, i, hT, hi, hx, h1, h2, got, hg, hgot, rfl⟩
    cases todo with
    | cons t todo => cases hx
    | nil =>
      simp only [fmFrom, List.append_nil] at hgot
      subst hgot
      repeat wtm_at "pvs"
      refine seen_list Sto.hit ?_
      rw [Sto.back ha]
      refine TOp.joinB 1 (fun x hx => by have := fm_sgl m fmTable 0 table_sgl x hx; omega) (by rw [fm_len]; decide) ?_
      repeat wtm_at "pvs"
      exact h
  · exact ⟨[], fmTable, 0, rfl, rfl, rfl, by wtm_at "pvl", by wtm_at "pvl", [], rfl, rfl, rfl⟩

/-! _law_turned -/
noncomputable def s4 (σ : Sto) (d a b : Addr) (room : List (Str × Str)) (xs : List PV) : Sto := ((σ.set d (some (.ini (some 0)))).set a (some (.acc d (room.map row2)))).set b (some (.list xs))
section
variable {σ : Sto} {d a b : Addr} {room room' : List (Str × Str)} {xs xs' : List PV}
theorem s4_a (hba : b ≠ a) : s4 σ d a b room xs a = some (.acc d (room.map row2)) := (Sto.skip (Ne.symm hba)).trans Sto.hit
theorem s4_d (had : a ≠ d) (hbd : b ≠ d) : s4 σ d a b room xs d = some (.ini (some 0)) := (Sto.skip (Ne.symm hbd)).trans ((Sto.skip (Ne.symm had)).trans Sto.hit)
theorem s4_b : s4 σ d a b room xs b = some (.list xs) := Sto.hit
theorem s4_setA (hba : b ≠ a) : (s4 σ d a b room xs).set a (some (.acc d (room'.map row2))) = s4 σ d a b room' xs := by
  unfold s4; rw [Sto.swap hba, Sto.over]
theorem s4_setD (had : a ≠ d) (hbd : b ≠ d) : (s4 σ d a b room xs).set d (some (.ini (some 0))) = s4 σ d a b room xs := Sto.same (s4_d had hbd)
theorem s4_setB : (s4 σ d a b room xs).set b (some (.list xs')) = s4 σ d a b room xs' := Sto.over
theorem s4_end (had : a ≠ d) (ha : σ a = none) (hd : σ d = none) (hb : σ b = none) : (((s4 σ d a b room xs).set b none).set a none).set d none = σ := by
  unfold s4
  rw [Sto.over]
  funext x
  unfold Sto.set
  by_cases h1 : x = d
  · subst h1; simp [hd]
  · by_cases h2 : x = a
    · subst h2; simp [h1, ha]
    · by_cases h3 : x = b
      · subst h3; simp [h1, h2, hb]
      · simp [h1, h2, h3]
end
noncomputable def ringR (ms : List Int) (k : Nat) : Str × Str := (fmRow (ms.getD k 0), sg (nameC k))
noncomputable def ringF (ms : List Int) : List (Str × Str) := (List.range 8).map (ringR ms)
noncomputable def rot (n : Nat) (l : List (Str × Str)) : List (Str × Str) := l.drop n ++ l.take n
theorem rot_next {l : List (Str × Str)} {n : Nat} (h : n < l.length) : (rot n l).drop 1 ++ (rot n l).take 1 = rot (n + 1) l := by
  unfold rot
  have e : l.drop n = l[n] :: l.drop (n + 1) := List.drop_eq_getElem_cons h
  have e2 : l.take (n + 1) = l.take n ++ [l[n]] := by rw [List.take_add_one, List.getElem?_eq_getElem h]; rfl
  rw [e, e2]
  show (List.drop (n + 1) l ++ List.take n l) ++ [l[n]] = _
  rw [List.append_assoc]
theorem rot_len (n : Nat) (l : List (Str × Str)) (h : n ≤ l.length) : (rot n l).length = l.length := by unfold rot; simp; lia
theorem rot_mem {n : Nat} {l : List (Str × Str)} {x : Str × Str} (h : x ∈ rot n l) : x ∈ l := by
  unfold rot at h
  rcases List.mem_append.mp h with h | h
  · exact List.mem_of_mem_drop h
  · exact List.mem_of_mem_take h
theorem fmRow_len (m : Int) : (fmRow m).length ≤ 20 := by
  have := join_len (Str.ofString "") 1 (fmFrom m 0 fmTable) (fun x hx => by have := fm_sgl m fmTable 0 table_sgl x hx; lia)
  rw [fm_len] at this
  have e : fmTable.length * (1 + (Str.ofString "").length) = 10 := rfl
  unfold fmRow
  lia
noncomputable def CountOk (m : Int) : Prop := 0 ≤ Txt.count (fmRow m) (Str.ofString "x") ∧ Txt.count (fmRow m) (Str.ofString "x") ≤ 3
theorem ring_ok {ms : List Int} (hms : ms.length = 8) (hc : ∀ m ∈ ms, CountOk m) {l : List (Str × Str)} (hl : ∀ x ∈ l, x ∈ ringF ms) : ∀ r ∈ l, r.1.length ≤ 100 ∧ r.2.length ≤ 1 ∧ 0 ≤ Txt.count r.1 (Str.ofString "x") ∧ Txt.count r.1 (Str.ofString "x") ≤ 3 := fun r hr => by
  obtain ⟨k, hk, rfl⟩ := List.mem_map.mp (hl r hr)
  simp only [List.mem_range] at hk
  have h1 := fmRow_len (ms.getD k 0)
  have h2 := hc _ (getD_mem (l := ms) (i := k) (d := 0) (by lia))
  exact ⟨by show (fmRow _).length ≤ _; lia, Nat.le_refl _, h2.1, h2.2⟩
noncomputable def toldF (ms : List Int) (t : Nat) : PV := readV (readF (rot t (ringF ms)))
theorem range_split {i n : Nat} (h : i < n) : n - i = (n - (i + 1)) + 1 := by lia
inductive ToldI (ms : List Int) (d a b : Addr) (σ : Sto) (xs : List PV) (ρ : Loc) (σ' : Sto) : Prop
  | mk (i : Nat) (h1 : i ≤ 8) (h2 : xs = (List.range' i (8 - i)).map nat) (h3 : ρ (Str.ofString "ring") = some (.ptr a)) (h4 : ρ (Str.ofString "told") = some (.ptr b)) (h5 : σ' = s4 σ d a b (rot i (ringF ms)) ((List.range i).map (toldF ms)))
inductive RingI (ms : List Int) (d a : Addr) (σ : Sto) (xs : List PV) (ρ : Loc) (σ' : Sto) : Prop
  | mk (i : Nat) (h1 : i ≤ 8) (h2 : xs = (List.range' i (8 - i)).map nat) (h3 : ρ (Str.ofString "modes") = some (.lst (pis ms))) (h4 : ρ (Str.ofString "ring") = some (.ptr a)) (h5 : σ' = (σ.set d (some (.ini (some 0)))).set a (some (.acc d (((List.range i).map (ringR ms)).map row2))))
theorem turned_ok {X : Txt} (G : Good X) {k : Nat} {σ : Sto} {ms : List Int} {Q : PV → Sto → Prop} (hms : ms.length = 8) (hc : ∀ m ∈ ms, CountOk m)
    (h : Q (.tup [.lst ((List.range 8).map (toldF ms)), .lst ((ringF ms).map row2)]) σ) : TOp X (k + 6) (fun vs => PySem.call (.ref 277) vs) [.lst (pis ms)] σ Q := by
  have T := G.ok
  have hsl := sl_big
  have C := accB G
  refine TOp.def' T (defTurned G) rfl (TDef.in' fun env hf => ?_)
  dsimp only [bindP, List.zip_cons_cons, List.zip_nil_left]
  wtm_at "pvs"
  refine T1.assign T (by eq_refl) (by eq_refl) (TE.call T (by eq_refl) (fv := .ref 101) (G.glob (by kernel_rfl)) (by eq_refl) (G.keep (by kernel_rfl)) (by eq_refl) ?_)
  show TOp X _ _ _ _ _
  refine new_ok G (k := k + 2) fun a d ha hd had => ?_
  wtm_at "pvs"
  repeat wtm_at "pvs"
  refine ⟨by decide, ?_⟩
  refine TFor.inv (RingI ms d a σ) ?_ ?_ ?_
  · rintro x xs ρ σ' ⟨i, hi, hx, h1, h2, rfl⟩
    have hi8 : i < 8 := by
      rcases Nat.lt_or_ge i 8 with e | e
      · exact e
      · have : 8 - i = 0 := by lia
        rw [this] at hx; cases hx
    rw [range_split hi8, List.range'_succ, List.map_cons] at hx
    obtain ⟨rfl, rfl⟩ := List.cons.inj hx
    wtm_at "pvs"
    wtm_at "pvs"
    refine T1.expr T (by eq_refl) ?_
    refine TE.c_push G (by eq_refl) (by eq_refl) (by eq_refl) (by eq_refl) ?_
    have gd : ((σ.set d (some (.ini (some 0)))).set a (some (.acc d (((List.range i).map (ringR ms)).map row2)))) d = some (.ini (some 0)) := (Sto.skip (Ne.symm had)).trans Sto.hit
    refine TE.raw (.inl (by eq_refl)) (by wtm_at "pvl") (by eq_refl) ⟨a, d, _, _, rfl, Sto.hit, gd, ?_⟩
    repeat wtm_at "pvs"
    refine TOp.itL (pis_idx (by lia) (by rw [Int.toNat_natCast]; lia)) ?_
    refine filemode_ok G ?_
    repeat wtm_at "pvs"
    refine TOp.itemS (by lia) (by lia) (nameC_in (by lia) (by lia)) ?_
    repeat wtm_at "pvs"
    refine push_ok G Sto.hit gd (by rw [List.length_map, List.length_map, List.length_range]; lia) ?_
    rw [Sto.over]
    repeat wtm_at "pvs"
    refine ⟨i + 1, by lia, rfl, by wtm_at "pvl", by wtm_at "pvl", ?_⟩
    rw [List.range_succ, List.map_append, List.map_append]
    rfl
  · rintro ρ σ' ⟨i, hi, hx, h1, h2, rfl⟩
    have hc8 : i = 8 := by
      have := congrArg List.length hx
      simp at this; lia
    subst hc8
    show TS X _ _ _ _ ((σ.set d (some (.ini (some 0)))).set a (some (.acc d ((ringF ms).map row2)))) _
    have hrl : (ringF ms).length = 8 := by simp [ringF]
    refine TS.nil ?_
    refine TS.cons (T1.assign T (by eq_refl) (by eq_refl) (TE.lstPtr T (by eq_refl) ⟨len_ok (by eq_refl), fun b hb => ?_⟩))
    wtm_at "pvs"
    have hba : b ≠ a := by rintro rfl; rw [Sto.hit] at hb; cases hb
    have hbd : b ≠ d := by
      rintro rfl
      rw [Sto.skip hba, Sto.hit] at hb; cases hb
    have hb0 : σ b = none := by rw [Sto.skip hba, Sto.skip hbd] at hb; exact hb
    show TS X _ _ _ _ (s4 σ d a b (ringF ms) []) _
    repeat wtm_at "pvs"
    refine ⟨by decide, ?_⟩
    refine TFor.inv (ToldI ms d a b σ) ?_ ?_ ?_
    · rintro x xs ρ σ' ⟨i, hi, hx, h1, h2, rfl⟩
      have hi8 : i < 8 := by
        rcases Nat.lt_or_ge i 8 with e | e
        · exact e
        · have : 8 - i = 0 := by lia
          rw [this] at hx; cases hx
      rw [range_split hi8, List.range'_succ, List.map_cons] at hx
      obtain ⟨rfl, rfl⟩ := List.cons.inj hx
      have hro := rot_len i (ringF ms) (by lia)
      have hrows := ring_ok hms hc (l := rot i (ringF ms)) (fun x hx => rot_mem hx)
      wtm_at "pvs"
      refine TS.cons (T1.append T (.inl (by eq_refl)) (by wtm_at "pvl") (by eq_refl) (by eq_refl) (by eq_refl) (by eq_refl) s4_b ?_)
      refine TE.call T (by eq_refl) (by wtm_at "pvg") (by eq_refl) (by wtm_at "pvk") (by eq_refl) ?_
      refine TE.sub T (TE.raw (.inl (by eq_refl)) (by wtm_at "pvl") (by eq_refl) ?_)
      refine TE.slice T ?_
      refine TOp.sliceA T C (s4_a hba) .none .none .none (by decide) ?_
      rw [pick_all]
      show TOp X _ _ _ _ _
      refine read_ok G (by lia) hrows ?_
      refine ⟨_, s4_b, by rw [List.length_map, List.length_range]; lia, ?_⟩
      rw [s4_setB]
      refine TS.cons (T1.assign T (by eq_refl) (by eq_refl) ?_)
      refine TE.c_pop_from G (by eq_refl) (by eq_refl) (by eq_refl) (by eq_refl) ?_
      refine TE.raw (.inl (by eq_refl)) (by wtm_at "pvl") (by eq_refl) ⟨a, d, _, _, rfl, s4_a hba, s4_d had hbd, ?_⟩
      refine TE.int ?_
      show TOp X _ _ _ _ _
      refine popfrom_ok G (n := 1) (s4_a hba) (s4_d had hbd) (by rw [List.length_map]; lia) (by rw [List.length_map]; lia) ?_
      rw [← List.map_take, ← List.map_drop, s4_setA hba]
      wtm_at "pvs"
      refine TS.cons (T1.expr T (by eq_refl) ?_)
      refine TE.c_reset G (by eq_refl) (by eq_refl) (by eq_refl) (by eq_refl) ?_
      refine TE.raw (.inl (by eq_refl)) (by wtm_at "pvl") (by eq_refl) ⟨a, d, _, _, rfl, s4_a hba, s4_d had hbd, ?_⟩
      refine TE.bin T ?_
      refine TE.loc T (by eq_refl) (by wtm_at "pvl") (by eq_refl) ?_
      refine TE.sub T (TE.raw (.inl (by eq_refl)) (by wtm_at "pvl") (by eq_refl) ?_)
      refine TE.slice T ?_
      refine TOp.sliceA T C (s4_a hba) .none .none .none (by decide) ?_
      rw [pick_all]
      refine TOp.addL T (by rw [List.length_map, List.length_map, List.length_drop, List.length_take]; lia) ?_
      rw [← List.map_append, rot_next (by lia)]
      show TOp X _ _ _ _ _
      refine reset_ok G (s4_a hba) (s4_d had hbd) (by rw [List.length_map, List.length_map, rot_len _ _ (by lia), List.length_take]; lia) ?_
      rw [s4_setA hba, s4_setD had hbd]
      repeat wtm_at "pvs"
      refine ⟨i + 1, by lia, rfl, by wtm_at "pvl", by wtm_at "pvl", ?_⟩
      rw [List.range_succ, List.map_append]
      rfl
    · rintro ρ σ' ⟨i, hi, hx, h1, h2, rfl⟩
      have hc8 : i = 8 := by
        have := congrArg List.length hx
        simp at this; lia
      subst hc8
      have hrot : rot 8 (ringF ms) = ringF ms := by
        unfold rot
        rw [List.drop_of_length_le (by lia), List.take_of_length_le (by lia)]; rfl
      rw [hrot]
      refine TS.nil ?_
      refine TS.cons (T1.ret ?_)
      refine TE.post_drop T d ?_
      refine TE.post_drop T a ?_
      refine TE.tup T (by eq_refl) (by decide) ?_
      refine TE.loc T (by eq_refl) h2 (by eq_refl) (seen_list s4_b ?_)
      refine TE.sub T (TE.raw (.inl (by eq_refl)) h1 (by eq_refl) ?_)
      refine TE.slice T ?_
      have ga : ((s4 σ d a b (ringF ms) ((List.range 8).map (toldF ms))).set b none) a = some (.acc d ((ringF ms).map row2)) := (Sto.skip (Ne.symm hba)).trans (s4_a hba)
      refine TOp.sliceA T C ga .none .none .none (by decide) ?_
      rw [pick_all]
      refine ⟨by show 2 ≤ _; lia, ?_⟩
      dsimp only [kDrop, kRet, kSeq, kDef]
      rw [s4_end had ha hd hb0]
      exact h
    · exact ⟨0, by lia, rfl, by wtm_at "pvl", by wtm_at "pvl", by unfold rot; simp⟩
  · exact ⟨0, by lia, rfl, by wtm_at "pvl", by wtm_at "pvl", rfl⟩

/-! commonpath -/
structure AbsPath (x : Str) : Prop where
  len : x.length ≤ 100
  occ : (Builtin.Str.occurrences x (Str.ofString "/") 0 x.length (x.length + 1)).isEmpty = false
  abs : Txt.startswith x (Str.ofString "/") = true
  few : (Txt.split x (Str.ofString "/")).length ≤ 100
  part : ∀ c ∈ Txt.split x (Str.ofString "/"), c.length ≤ 100
  ne : x.length ≠ 0
noncomputable def keepC (c : Str) : Bool := ((c.length : Int) != 0) && (c.cps.toList != (Str.ofString ".").cps.toList)
noncomputable def compsF (x : Str) : List Str := (Txt.split x (Str.ofString "/")).filter keepC
/-- how long two lists of texts are alike -/
noncomputable def lcp : List Str → List Str → List Str
  | x :: xs, y :: ys => if x.cps.toList != y.cps.toList then [] else x :: lcp xs ys
  | _, _ => []
noncomputable def commonF (a b : Str) : Str := Str.ofString "/" ++ Str.join (Str.ofString "/") (lcp (if lexLt (compsF b) (compsF a) then compsF b else compsF a) (if lexLt (compsF a) (compsF b) then compsF b else compsF a))
theorem kind_ge (x : Str) : ¬ Builtin.Str.strKind x < 1 := by
  unfold Builtin.Str.strKind
  split
  · omega
  · split <;> omega
theorem str_eq_cps {x y : Str} : (x.cps.toList != y.cps.toList) = false ↔ x = y := by
  constructor
  · intro h
    cases x; cases y
    simp only [bne_eq_false_iff_eq] at h
    simp only [Str.mk.injEq]
    exact Array.toList_inj.mp h
  · rintro rfl; simp
theorem lexLt_reach : ∀ (x y : List Str) (i : Nat), lexLt x y = true → i < x.length → x.take i = y.take i → i < y.length
  | [], _, i, _, h, _ => by simp at h
  | _ :: _, [], i, h, _, _ => by simp [lexLt] at h
  | a :: x, b :: y, 0, _, _, _ => by simp
  | a :: x, b :: y, i + 1, h, hi, ht => by
    simp only [List.take_succ_cons, List.cons.injEq] at ht
    obtain ⟨rfl, ht⟩ := ht
    simp only [lexLt, beq_self_eq_true, if_true] at h
    have := lexLt_reach x y i h (by simpa using hi) ht
    simpa using this
theorem minmax_reach (a b : List Str) (i : Nat) : i < (if lexLt b a then b else a).length → (if lexLt b a then b else a).take i = (if lexLt a b then b else a).take i → i < (if lexLt a b then b else a).length := by
  cases h1 : lexLt b a with
  | true =>
    cases h2 : lexLt a b with
    | true => simp only [if_true]; intro h _; exact h
    | false => simp only [if_true, Bool.false_eq_true, if_false]; exact lexLt_reach b a i h1
  | false =>
    cases h2 : lexLt a b with
    | true => simp only [if_true, Bool.false_eq_true, if_false]; exact lexLt_reach a b i h2
    | false => simp only [Bool.false_eq_true, if_false]; intro h _; exact h
theorem lcp_cut : ∀ (x y : List Str) (i : Nat), i < x.length → i < y.length → x.take i = y.take i → x.getD i Str.empty ≠ y.getD i Str.empty → lcp x y = x.take i
  | [], _, i, h, _, _, _ => by simp at h
  | _ :: _, [], i, _, h, _, _ => by simp at h
  | a :: x, b :: y, 0, _, _, _, h => by
    unfold lcp
    rw [if_pos (by
      cases e : (a.cps.toList != b.cps.toList) with
      | true => rfl
      | false => exact absurd (str_eq_cps.mp e) (by simpa using h))]
    rfl
  | a :: x, b :: y, i + 1, h1, h2, ht, h => by
    simp only [List.take_succ_cons, List.cons.injEq] at ht
    obtain ⟨rfl, ht⟩ := ht
    unfold lcp
    rw [if_neg (by simp), lcp_cut x y i (by simpa using h1) (by simpa using h2) ht (by simpa using h)]
    rfl
theorem lcp_mem : ∀ (x y : List Str), ∀ c ∈ lcp x y, c ∈ x
  | [], y, c, h => by cases y <;> simp [lcp] at h
  | a :: x, [], c, h => by simp [lcp] at h
  | a :: x, b :: y, c, h => by
    unfold lcp at h
    split at h
    · cases h
    · rcases List.mem_cons.mp h with rfl | h
      · exact List.mem_cons_self
      · exact List.mem_cons_of_mem _ (lcp_mem x y c h)
theorem lcp_len : ∀ (x y : List Str), (lcp x y).length ≤ x.length
  | [], y => by cases y <;> simp [lcp]
  | a :: x, [] => by simp [lcp]
  | a :: x, b :: y => by
    unfold lcp
    split
    · simp
    · have := lcp_len x y; simp; omega

theorem lcp_pre : ∀ (x y : List Str), x = y.take x.length → lcp x y = x
  | [], y, _ => by cases y <;> rfl
  | a :: x, [], h => by simp at h
  | a :: x, b :: y, h => by
    simp only [List.length_cons, List.take_succ_cons, List.cons.injEq] at h
    obtain ⟨rfl, h⟩ := h
    unfold lcp
    rw [if_neg (by simp), lcp_pre x y h]

theorem compsF_ok {x : Str} (h : AbsPath x) : (compsF x).length ≤ 100 ∧ ∀ c ∈ compsF x, c.length ≤ 100 := by
  unfold compsF
  refine ⟨Nat.le_trans (List.length_filter_le ..) h.few, fun c hc => h.part c (List.mem_filter.mp hc).1⟩
theorem pss_filter (l : List Str) : pss (l.filter keepC) = l.filterMap fun c => if keepC c then some (.str c) else none := by
  induction l with
  | nil => rfl
  | cons x l ih =>
    unfold pss at ih ⊢
    cases h : keepC x <;> simp [h, ih]
inductive ComI (s1 s2 : List Str) (σ : Sto) (xs : List PV) (ρ : Loc) (σ' : Sto) : Prop
  | mk (i : Nat) (h1 : i ≤ s1.length) (h2 : xs = enumP i (pss (s1.drop i))) (h3 : s1.take i = s2.take i) (h4 : σ' = σ) (h5 : ρ (Str.ofString "s1") = some (.lst (pss s1))) (h6 : ρ (Str.ofString "s2") = some (.lst (pss s2))) (h7 : ρ (Str.ofString "common") = some (.lst (pss s1))) (h8 : ρ (Str.ofString "sep") = some (.str (Str.ofString "/"))) (h9 : ρ (Str.ofString "isabs") = some (.bool true))
theorem commonpath_ok {X : Txt} (G : Good X) {k : Nat} {σ : Sto} {a b : Str} {Q : PV → Sto → Prop} (ha : AbsPath a) (hb : AbsPath b) (h : Q (.str (commonF a b)) σ) : TOp X (k + 6) (fun vs => PySem.call (.ref 211) vs) [.lst [.str a, .str b]] σ Q := by
  have T := G.ok
  have hsl := sl_big
  refine TOp.def' T (defCommonpath G) rfl (TDef.in' fun env hf => ?_)
  dsimp only [bindP, List.zip_cons_cons, List.zip_nil_left]
  refine TS.cons (T1.assign T (by eq_refl) (by eq_refl) ?_)
  refine TE.tupMap (f := .ref 178) T (by eq_refl) (by wtm_at "pvg") (by eq_refl) (by wtm_at "pvg") (by eq_refl) (by wtm_at "pvg") (by eq_refl) (by eq_refl) ?_
  refine TE.loc T (by eq_refl) (by wtm_at "pvl") (by eq_refl) ?_
  refine ⟨_, rfl, len_ok (by eq_refl), fun x hx => ?_, ?_⟩
  · simp only [List.mem_cons, List.not_mem_nil, or_false] at hx
    rcases hx with rfl | rfl <;> exact fspath_ok G ⟨rfl, rfl⟩
  repeat wtm_at "pvs"
  change Br false _ _
  repeat wtm_at "pvs"
  refine TOp.itT (by decide) rfl ?_
  repeat wtm_at "pvs"
  refine Exists.intro [.str a, .str b] ⟨.inr rfl, fun C => ?_⟩
  refine TGens.map PV.str (fun x => .lst (pss (Txt.split x (Str.ofString "/")))) (fun ρ => ρ (Str.ofString "sep") = some (.str (Str.ofString "/"))) (xs := [a, b]) rfl (by wtm_at "pvl") (fun x hx ρ hρ => ?_) (by show 2 ≤ _; omega) fun ρ hρ => ?_
  · have hp : AbsPath x := by
      simp only [List.mem_cons, List.not_mem_nil, or_false] at hx
      rcases hx with rfl | rfl <;> assumption
    repeat wtm_at "pvs"
    refine TOp.split T (by eq_refl) ?_ hp.occ (by have := hp.few; omega) ⟨rfl, rfl, by wtm_at "pvl"⟩
    have h1 : ¬ x.length < 1 := by have := hp.ne; omega
    have h2 := kind_ge x
    rw [show Builtin.Str.strKind (Str.ofString "/") = 1 from by kernel_rfl, show (Str.ofString "/").length = 1 from rfl, decide_eq_false h1, decide_eq_false h2]; rfl
  repeat wtm_at "pvs"
  refine T1.assignSet T (by eq_refl) (by eq_refl) (by eq_refl) (.inl rfl) ?_
  refine TI.val T ?_
  repeat wtm_at "pvs"
  refine Exists.intro [.str a, .str b] ⟨.inr rfl, by simp, fun C => ?_⟩
  refine TAsg.name T (.inl rfl) ?_
  repeat wtm_at "pvs"
  refine ⟨by rw [ha.abs], ?_⟩
  refine TAsg.name T (.inl rfl) ?_
  repeat wtm_at "pvs"
  refine ⟨by rw [hb.abs], ?_⟩
  show TS X _ _ _ _ _ _
  repeat wtm_at "pvs"
  refine Exists.intro [.lst (pss (Txt.split a (Str.ofString "/"))), .lst (pss (Txt.split b (Str.ofString "/")))] ⟨.inl rfl, fun C => ?_⟩
  refine TGens.map (fun x : Str => PV.lst (pss (Txt.split x (Str.ofString "/")))) (fun x => .lst (pss (compsF x))) (fun ρ => ρ (Str.ofString "curdir") = some (.str (Str.ofString "."))) (xs := [a, b]) rfl (by wtm_at "pvl") (fun x hx ρ hρ => ?_) (by show 2 ≤ _; omega) fun ρ hρ => ?_
  · have hp : AbsPath x := by
      simp only [List.mem_cons, List.not_mem_nil, or_false] at hx
      rcases hx with rfl | rfl <;> assumption
    repeat wtm_at "pvs"
    refine Exists.intro (pss (Txt.split x (Str.ofString "/"))) ⟨.inl rfl, fun C => ?_⟩
    refine TGens.pure PV.str (fun c => if keepC c then some (.str c) else none) (fun ρ => ρ (Str.ofString "curdir") = some (.str (Str.ofString "."))) (by wtm_at "pvl") (fun c hc ρ hρ => ?_) (by have := hp.few; simp; omega) fun ρ hρ => ?_
    · repeat wtm_at "pvs"
      refine ite_bool (fun h1 => ?_) (fun h1 => ?_)
      · repeat wtm_at "pvs"
        refine ite_bool (fun h2 => ?_) (fun h2 => ?_)
        · repeat wtm_at "pvs"
          exact ⟨rfl, by rw [if_pos]; unfold keepC; rw [Bool.and_eq_true]; exact ⟨h1, h2⟩, by wtm_at "pvl"⟩
        · repeat wtm_at "pvs"
          exact ⟨rfl, by rw [if_neg]; unfold keepC; rw [Bool.and_eq_true]; exact fun h => Bool.false_ne_true (h2.symm.trans h.2), by wtm_at "pvl"⟩
      · repeat wtm_at "pvs"
        exact ⟨rfl, by rw [if_neg]; unfold keepC; rw [Bool.and_eq_true]; exact fun h => Bool.false_ne_true (h1.symm.trans h.1), by wtm_at "pvl"⟩
    · refine ⟨rfl, ?_, by wtm_at "pvl"⟩
      rw [List.nil_append, compsF, pss_filter]
  repeat wtm_at "pvs"
  show TOp X _ _ _ _ _
  refine TOp.minLL T (a := compsF a) (b := compsF b) ?_
  repeat wtm_at "pvs"
  show TOp X _ _ _ _ _
  refine TOp.maxLL T (a := compsF a) (b := compsF b) ?_
  have hreach := minmax_reach (compsF a) (compsF b)
  obtain ⟨ca1, ca2⟩ := compsF_ok ha
  obtain ⟨cb1, cb2⟩ := compsF_ok hb
  have hs1 : (if lexLt (compsF b) (compsF a) then compsF b else compsF a).length ≤ 100 ∧ ∀ c ∈ (if lexLt (compsF b) (compsF a) then compsF b else compsF a), c.length ≤ 100 := by split <;> exact ⟨by assumption, by assumption⟩
  unfold commonF at h
  generalize (if lexLt (compsF b) (compsF a) then compsF b else compsF a) = s1 at hreach h hs1 ⊢
  generalize (if lexLt (compsF a) (compsF b) then compsF b else compsF a) = s2 at hreach h ⊢
  wtm_at "pvs"
  refine TS.cons (T1.assign T (by eq_refl) (by eq_refl) ?_)
  refine TE.loc T (by eq_refl) (by wtm_at "pvl") (by eq_refl) ?_
  refine TAsg.name T (.inl rfl) ?_
  refine TS.cons (T1.mono (Q := fun c ρ' σ' => c = .next ∧ σ' = σ ∧ ρ' (Str.ofString "common") = some (.lst (pss (lcp s1 s2))) ∧ ρ' (Str.ofString "sep") = some (.str (Str.ofString "/")) ∧ ρ' (Str.ofString "isabs") = some (.bool true)) ?_ ?_)
  · refine T1.forE T (by eq_refl) (by wtm_at "pvg") (by eq_refl) (by eq_refl) ?_
    refine TE.loc T (by eq_refl) (by wtm_at "pvl") (by eq_refl) ?_
    refine Exists.intro (pss s1) ⟨.inl rfl, ?_⟩
    refine TFor.inv (ComI s1 s2 σ) ?_ ?_ ?_
    · rintro x xs ρ σ' ⟨i, hi, hx, ht, rfl, g1, g2, g3, g4, g5⟩
      have hlt : i < s1.length := by
        rcases Nat.lt_or_ge i s1.length with e | e
        · exact e
        · rw [List.drop_of_length_le e] at hx; cases hx
      rw [List.drop_eq_getElem_cons hlt] at hx
      obtain ⟨rfl, rfl⟩ := List.cons.inj hx
      have hlt2 := hreach i hlt ht
      have e1 : s1[i] = s1.getD i Str.empty := by simp [List.getD, List.getElem?_eq_getElem hlt]
      rw [e1]
      repeat wtm_at "pvs"
      refine TOp.itL (pss_idx (by omega) (by rw [Int.toNat_natCast]; exact hlt2)) ?_
      rw [Int.toNat_natCast]
      repeat wtm_at "pvs"
      refine ite_bool (fun hm => ?_) fun hm => ?_
      · repeat wtm_at "pvs"
        refine TOp.sliceL T .none (.int _) .none (by decide) ?_
        rw [pick_to _ i (by rw [pss, List.length_map]; omega), show (pss s1).take i = pss (s1.take i) from (List.map_take ..).symm]
        repeat wtm_at "pvs"
        refine ⟨rfl, rfl, ?_, by wtm_at "pvl", by wtm_at "pvl"⟩
        rw [lcp_cut s1 s2 i hlt hlt2 ht (fun e => by rw [str_eq_cps.mpr e] at hm; cases hm)]
        wtm_at "pvl"
      · repeat wtm_at "pvs"
        refine ⟨i + 1, by omega, rfl, ?_, rfl, by wtm_at "pvl", by wtm_at "pvl", by wtm_at "pvl", by wtm_at "pvl", by wtm_at "pvl"⟩
        rw [List.take_add_one, List.take_add_one, ht, List.getElem?_eq_getElem hlt, List.getElem?_eq_getElem hlt2]
        have := str_eq_cps.mp hm
        simp only [List.getD, List.getElem?_eq_getElem hlt, List.getElem?_eq_getElem hlt2, Option.getD_some] at this
        rw [this]
    · rintro ρ σ' ⟨i, hi, hx, ht, rfl, g1, g2, g3, g4, g5⟩
      have hge : s1.length ≤ i := by
        rcases Nat.lt_or_ge i s1.length with e | e
        · rw [List.drop_eq_getElem_cons e] at hx; cases hx
        · exact e
      have hei : i = s1.length := by omega
      subst hei
      repeat wtm_at "pvs"
      refine ⟨rfl, rfl, ?_, g4, g5⟩
      rw [lcp_pre s1 s2 (by rw [← ht, List.take_length])]
      exact g3
    · exact ⟨0, Nat.zero_le _, rfl, rfl, rfl, by wtm_at "pvl", by wtm_at "pvl", by wtm_at "pvl", by wtm_at "pvl", by wtm_at "pvl"⟩
  · rintro c ρ' σ' ⟨rfl, rfl, g1, g2, g3⟩
    have hl1 := lcp_len s1 s2
    have hl2 := lcp_mem s1 s2
    have hjl := join_len (Str.ofString "/") 100 (lcp s1 s2) (fun x hx => hs1.2 x (hl2 x hx))
    have e1 : (Str.ofString "/").length = 1 := rfl
    rw [e1] at hjl
    repeat wtm_at "pvs"
    show TOp X _ _ _ _ _
    refine TOp.joinB 100 (fun x hx => hs1.2 x (hl2 x hx)) (by rw [e1]; have := Nat.mul_le_mul_right (100 + 1) (Nat.le_trans hl1 hs1.1); omega) ?_
    refine TOp.addS ?_ ?_
    · have := Nat.mul_le_mul_right (100 + 1) (Nat.le_trans hl1 hs1.1)
      rw [e1]; omega
    exact h

/-! _law_holds -/
structure HoldsOk (ps : List Str) (cs : List Int) : Prop where
  len : ps.length = 8
  abs : ∀ p ∈ ps, AbsPath p
  cnt : ps.map (fun p => (((ps.map dirnameF).count p : Nat) : Int)) = cs
  roots : ((ps.map dirnameF).count (Str.ofString "/") : Int) = 8 - cs.sum
  near : ∀ k, k < 7 → commonF (ps.getD k Str.empty) (ps.getD (k + 1) Str.empty) = (ps.map dirnameF).getD (k + 1) Str.empty
theorem eqv_pis (a : List Int) : PV.eqv (.lst (pis a)) (.lst (pis a)) = true := by
  rw [eqv_lst]; unfold pis; rw [eqvs_map (f := PV.int) eqv_int]; simp
theorem flat_pis (a : List Int) : PV.flat 3 (.lst (pis a)) = true := by
  show PV.flats 2 (pis a) = true
  unfold pis
  exact flats_map fun x _ => rfl
inductive HoldsI (ps fs : List Str) (σ : Sto) (xs : List PV) (ρ : Loc) (σ' : Sto) : Prop
  | mk (i : Nat) (h1 : i ≤ 7) (h2 : xs = (List.range' (i + 1) (7 - i)).map nat) (h3 : σ' = σ) (h4 : ρ (Str.ofString "paths") = some (.lst (pss ps))) (h5 : ρ (Str.ofString "folders") = some (.lst (pss fs)))
theorem holds_ok {X : Txt} (G : Good X) {k : Nat} {σ : Sto} {ps : List Str} {cs : List Int} {Q : PV → Sto → Prop} (H : HoldsOk ps cs) (h : Q (.bool true) σ) : TOp X (k + 7) (fun vs => PySem.call (.ref 282) vs) [.lst (pss ps), .lst (pis cs)] σ Q := by
  have T := G.ok
  have hsl := sl_big
  have hlen := H.len
  refine TOp.def' T (defHolds G) rfl (TDef.in' fun env hf => ?_)
  dsimp only [bindP, List.zip_cons_cons, List.zip_nil_left]
  repeat wtm_at "pvs"
  refine Exists.intro (pss ps) ⟨.inl rfl, fun C => ?_⟩
  refine TGens.map PV.str (fun x => .str (dirnameF x)) (fun _ => True) (xs := ps) rfl trivial (fun x hx ρ hρ => ?_) (by lia) fun ρ hρ => ?_
  · have := (H.abs x hx).len
    repeat wtm_at "pvs"
    refine dirname_ok G (by lia) ?_
    exact ⟨rfl, rfl, trivial⟩
  rw [show ps.map (fun x => PV.str (dirnameF x)) = pss (ps.map dirnameF) from by unfold pss; rw [List.map_map]; rfl]
  generalize hfs : ps.map dirnameF = fs
  have hfl : fs.length = 8 := by rw [← hfs, List.length_map]; exact hlen
  repeat wtm_at "pvs"
  refine Exists.intro (pss ps) ⟨.inl rfl, fun C => ?_⟩
  refine TGens.map PV.str (fun x => .int (fs.count x)) (fun ρ => ρ (Str.ofString "folders") = some (.lst (pss fs))) (xs := ps) rfl (by wtm_at "pvl") (fun x hx ρ hρ => ?_) (by lia) fun ρ hρ => ?_
  · refine TAsg.name T (.inl rfl) ?_
    refine TE.m_list_count T (by eq_refl) (by eq_refl) (by eq_refl) (by eq_refl) ?_
    refine TE.cell T (by eq_refl) (by wtm_at "pvl") (by eq_refl) ?_
    refine And.intro HasT.lst ?_
    repeat wtm_at "pvs"
    refine TOp.countL ?_
    exact ⟨rfl, rfl, by wtm_at "pvl"⟩
  have hcnt : ps.map (fun x => PV.int (fs.count x)) = pis cs := by
    rw [← H.cnt, hfs]; unfold pis; rw [List.map_map]; rfl
  rw [hcnt]
  repeat wtm_at "pvs"
  show TOp X _ _ _ _ _
  refine TOp.neD 3 (by decide) (flat_pis cs) (flat_pis cs) ?_
  rw [eqv_pis]
  refine Exists.intro _ ⟨rfl, ?_⟩
  change Br false _ _
  refine Br.not ?_
  refine TT.cmp T (by eq_refl) ?_
  refine TE.m_list_count T (by eq_refl) (by eq_refl) (by eq_refl) (by eq_refl) ?_
  refine TE.cell T (by eq_refl) (by wtm_at "pvl") (by eq_refl) ?_
  refine And.intro HasT.lst ?_
  repeat wtm_at "pvs"
  refine TOp.countL ?_
  repeat wtm_at "pvs"
  show TOp X _ _ _ _ _
  refine TOp.sum T ?_
  repeat wtm_at "pvs"
  rw [show (((fs.count (Str.ofString "/") : Nat) : Int) != 8 - cs.sum) = false from by rw [← hfs, H.roots]; simp]
  repeat wtm_at "pvs"
  refine ⟨_, _, rfl, rfl, by decide, by decide, ?_⟩
  refine TFor.inv (HoldsI ps fs σ) ?_ ?_ ?_
  · rintro x xs ρ σ' ⟨i, hi, hx, rfl, g1, g2⟩
    have hi7 : i < 7 := by
      rcases Nat.lt_or_ge i 7 with e | e
      · exact e
      · have : 7 - i = 0 := by lia
        rw [this] at hx; cases hx
    have e7 : 7 - i = (7 - (i + 1)) + 1 := by lia
    rw [e7, List.range'_succ, List.map_cons] at hx
    obtain ⟨rfl, rfl⟩ := List.cons.inj hx
    have ec : ((i + 1 : Nat) : Int) - 1 = (i : Nat) := by lia
    have ab1 := H.abs _ (getD_mem (l := ps) (i := i) (d := Str.empty) (by lia))
    have ab2 := H.abs _ (getD_mem (l := ps) (i := i + 1) (d := Str.empty) (by lia))
    repeat wtm_at "pvs"
    rw [ec]
    refine TOp.itL (pss_idx (by lia) (by rw [Int.toNat_natCast]; lia)) ?_
    rw [Int.toNat_natCast]
    repeat wtm_at "pvs"
    refine TOp.itL (pss_idx (by lia) (by rw [Int.toNat_natCast]; lia)) ?_
    rw [Int.toNat_natCast]
    refine ⟨by show 2 ≤ _; lia, ?_⟩
    show TOp X _ _ _ _ _
    refine commonpath_ok G ab1 ab2 ?_
    repeat wtm_at "pvs"
    refine TOp.itL (pss_idx (by lia) (by rw [Int.toNat_natCast]; lia)) ?_
    rw [Int.toNat_natCast]
    repeat wtm_at "pvs"
    rw [str_eq_cps.mpr (by rw [H.near i hi7, hfs])]
    repeat wtm_at "pvs"
    exact ⟨i + 1, by lia, rfl, rfl, by wtm_at "pvl", by wtm_at "pvl"⟩
  · rintro ρ σ' ⟨i, hi, hx, rfl, g1, g2⟩
    repeat wtm_at "pvs"
    exact h
  · exact ⟨0, by lia, rfl, rfl, by wtm_at "pvl", by wtm_at "pvl"⟩

/-! law -/
structure PlainOk (ms : List Int) : Prop where
  cnt : ∀ m ∈ ms, CountOk m
  few : ∀ m ∈ ms, 0 ≤ countF m ∧ countF m ≤ 3
  told : ∀ t, t < 8 → toldF ms t = reading (wantS (ms.map countF) t 8).1 (wantRest (ms.map countF) t)
  good : (((List.range 8).filter fun (t : Nat) => (wantRest (ms.map countF) t).isEmpty).length : Int) = max (8 - (ms.map countF).sum) 0
  ring : ∀ k, k < 8 → ringR ms k = (rowS (ms.getD k 0) 3, sg (nameC k))
  sorted : ∀ t : Nat, t < 8 → wantRest (ms.map countF) t = [] → ∀ ys zs : List Str, ys.Perm (forests (ms.map countF)) → sortedS ys = true → zs.Perm (wantS (ms.map countF) t 8).1 → sortedS zs = true → zs = ys
  flatT : ∀ t : Nat, t < 8 → PV.flat 5 (reading (wantS (ms.map countF) t 8).1 (wantRest (ms.map countF) t)) = true
  flatP : ∀ t : Nat, t < 8 → ∀ x ∈ (wantS (ms.map countF) t 8).1, PyData.strOk x = true
  flatR : ∀ k, k < 8 → PyData.strOk (rowS (ms.getD k 0) 3) = true
  holds : ∀ t : Nat, t < 8 → wantRest (ms.map countF) t = [] → HoldsOk (wantS (ms.map countF) t 8).1 ((ms.map countF).drop t ++ (ms.map countF).take t)
noncomputable def told8 (cs : List Int) : List PV := (List.range 8).map fun (t : Nat) => reading (wantS cs t 8).1 (wantRest cs t)
theorem told_as {ms cs : List Int} (h : ∀ t : Nat, t < 8 → toldF ms t = reading (wantS cs t 8).1 (wantRest cs t)) : (List.range 8).map (toldF ms) = told8 cs :=
  List.map_congr_left fun t ht => h t (List.mem_range.mp ht)
theorem told8_idx {cs : List Int} {t : Nat} (h : t < 8) : idx (told8 cs) (t : Int) = some (reading (wantS cs t 8).1 (wantRest cs t)) := by
  unfold idx told8
  rw [if_pos (by lia), Int.toNat_natCast, List.getElem?_map, List.getElem?_range h]; rfl
theorem flat_2 {a : List Str} {b : List (Str × Str)} (h : PV.flat 5 (reading a b) = true) : PV.flat 4 (.lst (pairs b)) = true := by
  have h' : PV.flats 4 [_, _, _, _, _] = true := h
  simp only [PV.flats, Bool.and_eq_true] at h'
  exact h'.2.1
theorem eqv_empty (b : List (Str × Str)) : PV.eqv (.lst (pairs b)) (.lst []) = b.isEmpty := by
  rw [eqv_lst]
  cases b with
  | nil => rfl
  | cons x xs => unfold pairs; rw [List.map_cons, eqvs_cons_nil]; rfl
theorem ring_as {ms : List Int} (h : ∀ k : Nat, k < 8 → ringR ms k = (rowS (ms.getD k 0) 3, sg (nameC k))) : (ringF ms).map row2 = (List.range 8).map fun (i : Nat) => row2 (rowS (ms.getD i 0) 3, sg (nameC i)) := by
  unfold ringF
  rw [List.map_map]
  exact List.map_congr_left fun t ht => congrArg row2 (h t (List.mem_range.mp ht))
theorem strOk_name (i : Int) : PyData.strOk (sg (nameC i)) = true := by
  have h : (i % 8).toNat < 8 := by lia
  unfold nameC
  generalize (i % 8).toNat = n at *
  have : n = 0 ∨ n = 1 ∨ n = 2 ∨ n = 3 ∨ n = 4 ∨ n = 5 ∨ n = 6 ∨ n = 7 := by lia
  rcases this with rfl | rfl | rfl | rfl | rfl | rfl | rfl | rfl <;> decide +kernel
theorem flat_row2 {a : Str} {i : Int} (h : PyData.strOk a = true) : PV.flat 3 (row2 (a, sg (nameC i))) = true := by
  show PV.flats 2 [.str a, .str (sg (nameC i))] = true
  simp only [PV.flats, PV.flat, h, strOk_name i]; rfl
theorem pis_split (t : Nat) (cs : List Int) : List.drop t (pis cs) ++ List.take t (pis cs) = pis (cs.drop t ++ cs.take t) := by
  unfold pis; rw [List.map_append, List.map_drop, List.map_take]
theorem law_ok {X : Txt} (G : Good X) {k : Nat} {σ : Sto} {sc : List Int} {Q : PV → Sto → Prop} (hsc : sc.length ≤ 1000) (H : ∀ ms : List Int, ms.length = 8 → (∀ m ∈ ms, 0 ≤ m ∧ m < 4294967296) → PlainOk ms)
    (h : Q (.bool true) σ) : TOp X (k + 8) (fun vs => PySem.call (.ref 318) vs) [.lst (pis sc)] σ Q := by
  have T := G.ok
  have hsl := sl_big
  refine TOp.def' T (defLaw G) rfl (TDef.in' fun env hf => ?_)
  dsimp only [bindP, List.zip_cons_cons, List.zip_nil_left]
  repeat wtm_at "pvs"
  refine modes_ok G hsc fun ms hms hmr => ?_
  have P := H ms hms hmr
  repeat wtm_at "pvs"
  refine Exists.intro (pis ms) ⟨.inl rfl, fun C => ?_⟩
  refine TGens.map PV.int (fun m => .int (countF m)) (fun _ => True) (xs := ms) rfl trivial (fun m hm ρ hρ => ?_) (by lia) fun ρ hρ => ?_
  · repeat wtm_at "pvs"
    refine count_ok G ?_
    exact ⟨rfl, rfl, trivial⟩
  rw [show ms.map (fun m => PV.int (countF m)) = pis (ms.map countF) from by unfold pis; rw [List.map_map]; rfl]
  obtain ⟨pcnt, pfew, ptold, pgood, pring, psorted, pflatT, pflatP, pflatR, pholds⟩ := P
  have hfew : ∀ c ∈ ms.map countF, 0 ≤ c ∧ c ≤ 3 := fun c hc => by
    obtain ⟨m, hm, rfl⟩ := List.mem_map.mp hc
    exact pfew m hm
  have hcl : (ms.map countF).length = 8 := by rw [List.length_map]; exact hms
  generalize hcs : ms.map countF = cs at *
  repeat wtm_at "pvs"
  show TOp X _ _ _ _ _
  refine turned_ok G hms pcnt ?_
  repeat wtm_at "pvs"
  refine ⟨by decide, fun C => ?_⟩
  show TGens X _ _ _ _ (rangeFrom 0 1 8) _ _ _ _
  rw [range_up, told_as ptold]
  refine TGens.pure nat (fun (i : Nat) => if (wantRest cs i).isEmpty then some (nat i) else none) (fun ρ => ρ (Str.ofString "told") = some (.lst (told8 cs))) (by wtm_at "pvl") (fun t ht ρ hρ => ?_) (by decide) fun ρ hρ => ?_
  · simp only [List.mem_range] at ht
    repeat wtm_at "pvs"
    refine TOp.itL (told8_idx ht) ?_
    repeat wtm_at "pvs"
    refine TOp.itL (p := .lst (pairs (wantRest cs t))) rfl ?_
    repeat wtm_at "pvs"
    show TOp X _ _ _ _ _
    refine TOp.eqD 4 (by decide) (flat_2 (pflatT t ht)) rfl ?_
    rw [eqv_empty]
    refine Exists.intro _ ⟨rfl, ?_⟩
    refine ite_bool (fun h1 => ?_) (fun h1 => ?_)
    · repeat wtm_at "pvs"
      exact ⟨rfl, by rw [h1]; rfl, by wtm_at "pvl"⟩
    · repeat wtm_at "pvs"
      exact ⟨rfl, by rw [h1]; rfl, by wtm_at "pvl"⟩
  rw [filter_as, List.nil_append]
  generalize hgd : (List.range 8).filter (fun (t : Nat) => (wantRest cs t).isEmpty) = good at *
  have hgl : good.length ≤ 8 := by rw [← hgd]; exact List.length_filter_le _ _
  have hgm : ∀ t ∈ good, t < 8 ∧ wantRest cs t = [] := fun t ht => by
    rw [← hgd] at ht
    have := List.mem_filter.mp ht
    exact ⟨List.mem_range.mp this.1, List.isEmpty_iff.mp this.2⟩
  repeat wtm_at "pvs"
  show TOp X _ _ _ _ _
  refine forest_ok G hcl fun ys hys hsy => ?_
  repeat wtm_at "pvs"
  refine ⟨by decide, fun C => ?_⟩
  show TGens X _ _ _ _ (rangeFrom 0 1 8) _ _ _ _
  rw [range_up]
  refine TGens.map nat (fun (t : Nat) => reading (wantS cs t 8).1 (wantRest cs t)) (fun ρ => ρ (Str.ofString "counts") = some (.lst (pis cs))) rfl (by wtm_at "pvl") (fun t ht ρ hρ => ?_) (by decide) fun ρ hρ => ?_
  · simp only [List.mem_range] at ht
    repeat wtm_at "pvs"
    refine wanted_ok G (by lia) hcl hfew ?_
    exact ⟨rfl, rfl, by wtm_at "pvl"⟩
  have hft : PV.flat 6 (.lst (told8 cs)) = true := flats_map fun t ht => pflatT t (List.mem_range.mp ht)
  show TOp X _ _ [PV.lst (told8 cs), PV.lst (told8 cs)] _ _
  refine TOp.neD 6 (by decide) hft hft ?_
  rw [pv_eqv_refl hft]
  refine Exists.intro _ ⟨rfl, ?_⟩
  change Br false _ _
  refine Br.not ?_
  repeat wtm_at "pvs"
  show TOp X _ _ _ _ _
  refine TOp.sum T ?_
  repeat wtm_at "pvs"
  show TOp X _ _ _ _ _
  refine TOp.max2 T ?_
  repeat wtm_at "pvs"
  rw [show (((good.map nat).length : Int) != max (8 - cs.sum) 0) = false from by rw [List.length_map, pgood]; simp]
  repeat wtm_at "pvs"
  refine ⟨by decide, fun C => ?_⟩
  show TGens X _ _ _ _ (rangeFrom 0 1 8) _ _ _ _
  rw [range_up]
  refine TGens.map nat (fun (i : Nat) => row2 (rowS (ms.getD i 0) 3, sg (nameC i))) (fun ρ => ρ (Str.ofString "modes") = some (.lst (pis ms))) rfl (by wtm_at "pvl") (fun i hi ρ hρ => ?_) (by decide) fun ρ hρ => ?_
  · simp only [List.mem_range] at hi
    repeat wtm_at "pvs"
    refine TOp.itL (pis_idx (by lia) (by rw [Int.toNat_natCast]; lia)) ?_
    refine row_ok G ?_
    repeat wtm_at "pvs"
    refine TOp.itemS (by lia) (by lia) (nameC_in (by lia) (by lia)) ?_
    exact ⟨len_ok (by eq_refl), rfl, rfl, by wtm_at "pvl"⟩
  rw [ring_as pring]
  have hfr : PV.flat 4 (.lst ((List.range 8).map fun (i : Nat) => row2 (rowS (ms.getD i 0) 3, sg (nameC i)))) = true := flats_map fun i hi => flat_row2 (pflatR i (List.mem_range.mp hi))
  show TOp X _ _ [PV.lst _, PV.lst _] _ _
  refine TOp.neD 4 (by decide) hfr hfr ?_
  rw [pv_eqv_refl hfr]
  refine Exists.intro _ ⟨rfl, ?_⟩
  change Br false _ _
  refine Br.not ?_
  repeat wtm_at "pvs"
  refine Exists.intro (good.map nat) ⟨.inl rfl, fun C => ?_⟩
  refine TGens.map nat (fun _ => .bool true) (fun ρ => ρ (Str.ofString "told") = some (.lst (told8 cs)) ∧ ρ (Str.ofString "counts") = some (.lst (pis cs)) ∧ ρ (Str.ofString "forest") = some (.lst (pss ys))) rfl ⟨by wtm_at "pvl", by wtm_at "pvl", by wtm_at "pvl"⟩ (fun t ht ρ hρ => ?_) (by lia) fun ρ hρ => ?_
  · obtain ⟨h1, h2, h3⟩ := hρ
    obtain ⟨ht8, hre⟩ := hgm t ht
    repeat wtm_at "pvs"
    refine TE.and2 T ?_
    repeat wtm_at "pvs"
    refine TOp.itL (told8_idx ht8) ?_
    repeat wtm_at "pvs"
    refine TOp.itL (p := .lst (pss (wantS cs t 8).1)) rfl ?_
    repeat wtm_at "pvs"
    show TOp X _ _ _ _ _
    refine TOp.sorted T (by rw [(wantS_ok t hcl hfew 8 (by lia)).1]; decide) fun zs hz hsz => ?_
    have hzy := psorted t ht8 hre ys zs hys hsy hz hsz
    have hfz : PV.flat 3 (.lst (pss zs)) = true := flats_map fun x hx => pflatP t ht8 x (hz.mem_iff.mp hx)
    subst hzy
    repeat wtm_at "pvs"
    show TOp X _ _ _ _ _
    refine TOp.eqD 3 (by decide) hfz hfz ?_
    rw [pv_eqv_refl hfz]
    refine Exists.intro _ ⟨rfl, ?_⟩
    change Br true _ _
    refine Br.yes ?_
    repeat wtm_at "pvs"
    show TOp X _ _ _ _ _
    refine TOp.itL (told8_idx ht8) ?_
    repeat wtm_at "pvs"
    refine TOp.itL (p := .lst (pss (wantS cs t 8).1)) rfl ?_
    repeat wtm_at "pvs"
    change seen (.int (t : Int)) σ _
    repeat wtm_at "pvs"
    refine TOp.sliceL T (.int _) .none .none (by decide) ?_
    rw [pick_from _ _ (by rw [pis, List.length_map]; lia)]
    repeat wtm_at "pvs"
    change seen (.int (t : Int)) σ _
    repeat wtm_at "pvs"
    refine TOp.sliceL T .none (.int _) .none (by decide) ?_
    rw [pick_to _ _ (by rw [pis, List.length_map]; lia)]
    repeat wtm_at "pvs"
    refine TOp.addL T (by rw [List.length_drop, List.length_take, pis, List.length_map]; lia) ?_
    rw [pis_split]
    refine holds_ok G (pholds t ht8 hre) ?_
    exact ⟨rfl, rfl, by wtm_at "pvl", by wtm_at "pvl", by wtm_at "pvl"⟩
  refine TOp.allT T (fun p hp => ?_) ?_
  · obtain ⟨_, _, rfl⟩ := List.mem_map.mp hp; rfl
  repeat wtm_at "pvs"
  exact h

/-! the law's start -/
noncomputable def XAt (w : World) (h₁ : Heap) (os : OsState) (mg mb : Str → Option Value) : Txt where
  prog := PySem.Challenge.rw_il0074_02.row.toRowW.prog
  w := w
  K := K2 w.params
  h₁ := h₁
  os := os
  mg := mg
  mb := mb
  accCls := 101
  tabs := [63, 70]
  tabP := fun _ _ vs => TriplesOk vs.toList
noncomputable def WAt (h : Heap) : Map := fun a => if a = 63 ∨ a = 70 then .tab else match h.get? a with
  | some o => .fro o
  | none => .no
theorem WAt_fro {h : Heap} {a : Addr} {o : Obj} (e : h.get? a = some o) (h1 : a ≠ 63) (h2 : a ≠ 70) : WAt h a = .fro o := by
  unfold WAt; rw [if_neg (fun h => h.elim h1 h2), e]
theorem txt_ok {w : World} {h₁ : Heap} {os : OsState} {mg mb : Str → Option Value} (hK : (K2 w.params).In h₁) (nl : h₁.NoLimit) (hg : h₁.Ns mainGlobals mg) (hb : h₁.Ns builtinsNs mb) : (XAt w h₁ os mg mb).Ok where
  inK := hK
  nolimit := nl
  g := hg
  b := hb
  tabK := fun t ht => by
    have ht' : t = 63 ∨ t = 70 := by
      have : t ∈ ([63, 70] : List Addr) := ht
      simpa using this
    rcases ht' with rfl | rfl <;> exact ⟨by kernel_rfl, by decide, by decide, by decide⟩
  tabM := fun t W W' vs _ h => h
theorem good_at {w : World} {h₁ : Heap} {os : OsState} {mg mb : Str → Option Value} (hK : (K2 w.params).In h₁) (nl : h₁.NoLimit) (hg : h₁.Ns mainGlobals mg) (hb : h₁.Ns builtinsNs mb)
    (hbi : ∀ x : Str, x ≠ "__name__" → mb x = bootBuiltins x) (hm : ∃ bm ob, BMod h₁ mainGlobals mg bm ob) (ht : ∀ P ∈ ([63, 70] : List Addr), h₁.get? P = some (tabObj #[])) : Good (XAt w h₁ os mg mb) where
  ok := txt_ok hK nl hg hb
  K := rfl
  bi := hbi
  acc := rfl
  tabs := rfl
  tabP := rfl
  prog := rfl
  mod := ⟨by
    obtain ⟨bm, ob, M⟩ := hm
    refine ⟨bm, ob, M, fun hin => ?_⟩
    have h1 := ht bm hin
    obtain ⟨_, _, _, h2, h3, _⟩ := M
    rw [h1] at h2; cases h2; cases h3⟩
theorem hrel_at {w : World} {s₁ : Shared} {mg mb : Str → Option Value} (ht : ∀ P ∈ ([63, 70] : List Addr), s₁.heap.get? P = some (tabObj #[])) (hgens : s₁.gens = #[]) :
    HRel (XAt w s₁.heap s₁.os mg mb) (WAt s₁.heap) (fun _ => none) s₁ where
  ok := fun a => by
    unfold WAt
    by_cases h : a = 63 ∨ a = 70
    · rw [if_pos h]
      refine ⟨#[], ht a (by rcases h with rfl | rfl <;> simp), ?_⟩
      exact trivial
    · rw [if_neg h]
      cases e : s₁.heap.get? a with
      | none => exact trivial
      | some o => exact e
  old := fun b o e hb => by
    have hb' : ¬ (b = 63 ∨ b = 70) := fun h => hb (by rcases h with rfl | rfl <;> simp [XAt])
    have e' : s₁.heap.get? b = some o := e
    unfold WAt; rw [if_neg hb', e']
  tab := fun b hb => by
    have hb' : b = 63 ∨ b = 70 := by
      have : b ∈ ([63, 70] : List Addr) := hb
      simpa using this
    unfold WAt; rw [if_pos hb']
  cel := fun a c => by
    refine ⟨fun h => (by cases h), fun h => ?_⟩
    unfold WAt at h
    split at h
    · cases h
    · split at h <;> cases h
  os := rfl
  gens := .of_eq hgens
theorem aok_caller {k : Nat} (h : k ≤ 60) : AOk k callerA := ⟨by show 1 + claimMargin + 3 * k ≤ 600; unfold claimMargin; omega, by show 4 + 60 * k ≤ 8000; omega, rfl⟩
theorem codeTab {w : World} {h₁ : Heap} (hK : (K2 w.params).In h₁) {P : Addr} (h : P = 63 ∨ P = 70) : isCodeTable h₁ P := by
  rcases h with rfl | rfl
  · obtain ⟨o, vs, _, _, _, _, _, _, _, h1, h2, h3, h4, _⟩ := codeHd_of_K (c := 67) hK (by kernel_rfl : codeHdIn (K2 w.params) 67 63 = true)
    exact ⟨67, o, vs, h1, h2, h3, h4⟩
  · obtain ⟨o, vs, _, _, _, _, _, _, _, h1, h2, h3, h4, _⟩ := codeHd_of_K (c := 74) hK (by kernel_rfl : codeHdIn (K2 w.params) 74 70 = true)
    exact ⟨74, o, vs, h1, h2, h3, h4⟩
/-- what is left of the old objects -/
theorem old_at {w : World} {s₁ s' : Shared} {mg mb : Str → Option Value} {W : Map} {σ : Sto} (hK : (K2 w.params).In s₁.heap) (ht : ∀ P ∈ ([63, 70] : List Addr), s₁.heap.get? P = some (tabObj #[]))
    (R : HRel (XAt w s₁.heap s₁.os mg mb) W σ s') : OldK s₁.heap s'.heap := by
  have htab : ∀ b, b = 63 ∨ b = 70 → ∃ vs, s'.heap.get? b = some (tabObj vs) := fun b hb => by
    have h1 := R.tab b (by show b ∈ ([63, 70] : List Addr); simpa using hb)
    have h2 := R.ok b
    rw [h1] at h2
    obtain ⟨vs, e, _⟩ := h2
    exact ⟨vs, e⟩
  refine ⟨fun b o e => ?_, fun b o e => ?_⟩
  · by_cases hb : b = 63 ∨ b = 70
    · obtain ⟨vs, e'⟩ := htab b hb
      have e0 := ht b (by simpa using hb)
      rw [e0] at e; cases e
      exact .inr (.inl ⟨codeTab hK hb, rfl, #[], vs, rfl, by rw [e']; simp⟩)
    · have hW := R.old b o e (by show b ∉ ([63, 70] : List Addr); simpa using hb)
      exact .inl (R.fro hW)
  · by_cases hb : b = 63 ∨ b = 70
    · obtain ⟨vs, e'⟩ := htab b hb; exact ⟨_, e'⟩
    · have hW := R.old b o e (by show b ∉ ([63, 70] : List Addr); simpa using hb)
      exact ⟨o, R.fro hW⟩

theorem list_ints {R : WRecords} {xs : List WData} (h : WShape.hasItems R xs .int = true) : ∃ sc : List Int, xs = sc.map WData.int := by
  induction xs with
  | nil => exact ⟨[], rfl⟩
  | cons x xs ih =>
    unfold WShape.hasItems at h
    simp only [Bool.and_eq_true] at h
    obtain ⟨i, rfl⟩ := hasW_int h.1
    obtain ⟨sc, rfl⟩ := ih h.2
    exact ⟨i :: sc, rfl⟩
theorem well_ints {P : Params} {h : Heap} {W : Map} : ∀ {sc : List Int} {vs : List Value}, WellAll P h vs (sc.map WData.int) → VRels W (pis sc) vs
  | [], vs, x => by cases x; rfl
  | i :: sc, vs, x => by
    cases x with
    | cons a b =>
      cases a
      exact ⟨_, _, rfl, ⟨_, rfl⟩, well_ints b⟩
theorem few_items {R : WRecords} {xs : List WData} (h : WTm.holds R (.and (.not (.lt (.lit (.int 63)) (.len (.arg 0)))) (.lit (.bool true))) { args := [.list xs] } = true) : xs.length ≤ 63 := by
  have h1 := (holds_andW h).1
  have hv : (WTm.not (.lt (.lit (.int 63)) (.len (.arg 0)))).value R { args := [.list xs] } = some (.bool (!decide ((63 : Int) < xs.length))) := rfl
  have := condW_of h1 hv
  simp at this
  omega
theorem law_at (H : ∀ ms : List Int, ms.length = 8 → (∀ m ∈ ms, 0 ≤ m ∧ m < 4294967296) → PlainOk ms) : PySem.Challenge.rw_il0074_02.Holds := by
  refine hd ?_
  intro w s₀ s₁ mg mb G Y a o pm cd doc dV kV ho hdt hcd hD hmg hg args vals as hpre hlay hrd hwl hlo
  have hK : (K2 w.params).In s₁.heap := km_in_of Y
  have ht := km_tabs_of Y
  have T := G.T
  have hl : mg (Str.ofString "law") = some (.ref 318) := mg_of hK T.g (by kernel_rfl)
  have ha : some (Value.ref a) = some (.ref 318) := hmg.symm.trans hl
  cases ha
  have Gd : Good (XAt w s₁.heap s₁.os mg mb) := good_at hK T.nolimit T.g T.b T.builtins (bmod_of_top T) ht
  obtain ⟨hsh, hcond⟩ := pre_splitW hpre
  obtain ⟨d, r, rfl, hx, hr⟩ := hasAllW_cons hsh
  have hr0 := hasAllW_nil hr
  subst hr0
  obtain ⟨xs, rfl, hxs⟩ := hasW_list hx
  obtain ⟨sc, rfl⟩ := list_ints hxs
  have hlen := few_items hcond
  have R := hrel_at (w := w) (mg := mg) (mb := mb) ht hg
  cases hwl with
  | cons h1 h2 =>
    cases h2
    cases h1 with
    | @list la vs _ e1 e2 =>
      have hvs := well_ints (W := WAt s₁.heap) e2
      have hla : WAt s₁.heap la = .fro (lstObj vs 0) := WAt_fro e1 (fun h => by subst h; rw [ht 63 (by simp)] at e1; cases e1) (fun h => by subst h; rw [ht 70 (by simp)] at e1; cases e1)
      have hzl : vs.length ≤ sizeLine := by
        have h3 := hvs.length
        have h4 := sl_big
        rw [List.length_map] at hlen
        rw [h3, pis, List.length_map]; omega
      have hargs : VRels (WAt s₁.heap) [.lst (pis sc)] [.ref la] := ⟨_, _, rfl, ⟨la, vs, 0, rfl, hla, hzl, hvs⟩, rfl⟩
      have L := law_ok Gd (k := 0) (σ := fun _ => none) (sc := sc) (Q := fun p _ => p = .bool true) (by rw [List.length_map] at hlen; omega) H rfl
      refine wpAny_mono (L.run callerA (WAt s₁.heap) s₁ [.ref la] (aok_caller (by omega)) R hargs) (fun v s' h => ?_) fun _ _ h => h.elim
      obtain ⟨W', p, σ', hle, R', hv, rfl⟩ := h
      have hv' : v = .bool true := hv
      subst hv'
      exact ⟨.inl ⟨_, .bool true, [], rfl, fun cls => rfl, .bool true, by wrow_post, fun _ => ⟨.nil, fun _ ha => nomatch ha⟩⟩, old_at hK ht R', R'.os, R'.gens⟩

/-! texts as lists of code points -/
theorem s_ext {a b : Str} (h : a.cps.toList = b.cps.toList) : a = b := Str.ext' (Array.toList_inj.mp h)
theorem s_app (a b : Str) : (a ++ b).cps.toList = a.cps.toList ++ b.cps.toList := by rw [Str.cps_append, Array.toList_append]
theorem s_len (a : Str) : a.length = a.cps.toList.length := by simp [Str.length]
noncomputable def mkS (l : List Nat) : Str := ⟨l.toArray⟩
theorem mkS_cps (l : List Nat) : (mkS l).cps.toList = l := rfl
theorem mkS_len (l : List Nat) : (mkS l).length = l.length := s_len _
theorem mkS_app (a b : List Nat) : mkS a ++ mkS b = mkS (a ++ b) := s_ext (by rw [s_app]; rfl)
theorem slash_mk : Str.ofString "/" = mkS [47] := rfl
theorem o_mk : Str.ofString "o" = mkS [111] := rfl
theorem x_mk : Str.ofString "x" = mkS [120] := rfl
theorem e_mk : Str.ofString "" = mkS [] := rfl
theorem sg_mk (c : Nat) : sg c = mkS [c] := rfl
theorem s_mk (a : Str) : mkS a.cps.toList = a := s_ext rfl
theorem starts_mk (c : Nat) (r : List Nat) : Txt.startswith (mkS (c :: r)) (mkS [47]) = (c == 47) := by
  unfold Txt.startswith
  rw [StrLaws.subAt_eq]
  have e : decide (0 + (mkS [47]).length ≤ (mkS (c :: r)).length) = true := by rw [mkS_len, mkS_len]; simp
  rw [e, Bool.true_and]
  show (List.take 1 (List.drop 0 (c :: r)) == [47]) = _
  simp
theorem ends_mk (c : Nat) (r : List Nat) : Txt.endswith (mkS (r ++ [c])) (mkS [47]) = (c == 47) := by
  unfold Txt.endswith
  rw [StrLaws.subAt_eq]
  have e : decide (0 + (mkS [47]).length ≤ (mkS (r ++ [c])).length) = true := by rw [mkS_len, mkS_len]; simp
  rw [e, Bool.true_and, mkS_len, mkS_len]
  show (List.take 1 (List.drop ((r ++ [c]).length - 1) (r ++ [c])) == [47]) = _
  have : (r ++ [c]).length - 1 = r.length := by simp
  rw [this, List.drop_left]
  simp
/-! joins and parts -/
theorem join_list (c : Nat) : ∀ (r : List Str) (p : Str), (Str.join (mkS [c]) (p :: r)).cps.toList = p.cps.toList ++ r.flatMap fun q => c :: q.cps.toList
  | [], p => by simp [Str.join]
  | q :: r, p => by
    show (p ++ mkS [c] ++ Str.join (mkS [c]) (q :: r)).cps.toList = _
    rw [s_app, s_app, join_list c r q, mkS_cps]
    simp
theorem free_take {c : Nat} : ∀ (p : List Nat) (l : List Nat), c ∉ p → (l = [] ∨ ∃ t, l = c :: t) → (p ++ l).takeWhile (fun x => x != c) = p
  | [], l, _, h => by
    rcases h with rfl | ⟨t, rfl⟩
    · rfl
    · simp
  | a :: p, l, h, hl => by
    have ha : a ≠ c := fun e => h (e ▸ List.mem_cons_self)
    have := free_take p l (fun hm => h (List.mem_cons_of_mem _ hm)) hl
    simp [ha, this]
theorem flat_head (c : Nat) : ∀ r : List Str, (r.flatMap fun q => c :: q.cps.toList) = [] ∨ ∃ t, (r.flatMap fun q => c :: q.cps.toList) = c :: t
  | [] => .inl rfl
  | q :: r => .inr ⟨_, rfl⟩
theorem parts_eq {c : Nat} : ∀ (r r' : List Str) (p p' : Str), (∀ q ∈ p :: r, c ∉ q.cps.toList) → (∀ q ∈ p' :: r', c ∉ q.cps.toList) →
    (p.cps.toList ++ r.flatMap fun q => c :: q.cps.toList) = (p'.cps.toList ++ r'.flatMap fun q => c :: q.cps.toList) → p :: r = p' :: r'
  | r, r', p, p', h, h', e => by
    have e1 := congrArg (List.takeWhile (fun x => x != c)) e
    rw [free_take _ _ (h p List.mem_cons_self) (flat_head c r), free_take _ _ (h' p' List.mem_cons_self) (flat_head c r')] at e1
    have hp : p = p' := s_ext e1
    subst hp
    have e2 := List.append_cancel_left e
    cases r with
    | nil =>
      cases r' with
      | nil => rfl
      | cons q' r' => cases e2
    | cons q r =>
      cases r' with
      | nil => cases e2
      | cons q' r' =>
        have e3 : (q.cps.toList ++ r.flatMap fun q => c :: q.cps.toList) = (q'.cps.toList ++ r'.flatMap fun q => c :: q.cps.toList) := by
          simpa using e2
        rw [parts_eq r r' q q' (fun x hx => h x (List.mem_cons_of_mem _ hx)) (fun x hx => h' x (List.mem_cons_of_mem _ hx)) e3]
/-! paths -/
noncomputable def pathL (l : List Nat) : List Nat := l.flatMap fun c => [47, c]
noncomputable def pathT (l : List Nat) : Str := mkS (pathL l)
theorem pathL_len (l : List Nat) : (pathL l).length = 2 * l.length := by
  induction l with
  | nil => rfl
  | cons a l ih =>
    have : (pathL (a :: l)).length = (pathL l).length + 2 := by simp [pathL]
    rw [this, ih, List.length_cons]; omega
theorem pathT_len (l : List Nat) : (pathT l).length = 2 * l.length := by rw [pathT, mkS_len, pathL_len]
theorem pathL_app (a b : List Nat) : pathL (a ++ b) = pathL a ++ pathL b := by simp [pathL]
theorem pathT_app (a b : List Nat) : pathT a ++ pathT b = pathT (a ++ b) := by unfold pathT; rw [mkS_app, pathL_app]
theorem pathL_inj : ∀ {a b : List Nat}, pathL a = pathL b → a = b
  | [], [], _ => rfl
  | [], _ :: _, h => by cases h
  | _ :: _, [], h => by cases h
  | x :: a, y :: b, h => by
    have h' : 47 :: x :: pathL a = 47 :: y :: pathL b := h
    injection h' with _ h'; injection h' with h1 h2
    rw [h1, pathL_inj h2]
theorem pathT_inj {a b : List Nat} (h : pathT a = pathT b) : a = b := pathL_inj (congrArg (fun s : Str => s.cps.toList) h)
/-- letters alone -/
noncomputable def Let (l : List Nat) : Prop := ∀ c ∈ l, c ≠ 47 ∧ c ≠ 46 ∧ c < 128
theorem join_path {l : List Nat} {c : Nat} (hl : Let (l ++ [c])) (h : l ≠ []) : joinF (pathT l) (sg c) = pathT (l ++ [c]) := by
  have hc := hl c (by simp)
  unfold joinF
  rw [slash_mk, sg_mk, starts_mk]
  have e1 : (c == 47) = false := by simp [hc.1]
  have e2 : (((pathT l).length : Int) != 0) = true := by
    rw [pathT_len]
    cases l with
    | nil => exact absurd rfl h
    | cons a l => simp; omega
  rw [e1, e2]
  rw [if_neg (by decide)]
  have hd : ∃ r a, pathL l = r ++ [a] ∧ a ≠ 47 := by
    obtain ⟨r, a, rfl⟩ : ∃ r a, l = r ++ [a] := ⟨l.dropLast, l.getLast h, (List.dropLast_concat_getLast h).symm⟩
    refine ⟨pathL r ++ [47], a, ?_, (hl a (by simp)).1⟩
    rw [pathL_app]; simp [pathL]
  obtain ⟨r, a, e3, ha⟩ := hd
  unfold pathT
  rw [e3, ends_mk, show (a == 47) = false from by simp [ha], if_neg (by decide), mkS_app, mkS_app, ← e3, pathL_app]
  rfl
theorem join_root (c : Nat) (hc : c ≠ 47) : joinF slash (sg c) = pathT [c] := by
  unfold joinF slash
  rw [slash_mk, sg_mk, starts_mk]
  rw [show (c == 47) = false from by simp [hc]]
  have e2 : (((mkS [47]).length : Int) != 0) = true := by decide
  rw [e2, if_neg (by decide), if_pos (by decide), mkS_app]
  rfl
/-! dirname -/
theorem mul_foldl (c : Nat) : ∀ (n : Nat) (acc : Array Nat), ((List.replicate n (mkS [c]).cps).foldl (· ++ ·) acc).toList = acc.toList ++ List.replicate n c
  | 0, acc => by simp
  | n + 1, acc => by
    rw [List.replicate_succ, List.foldl_cons, mul_foldl c n, Array.toList_append]
    show acc.toList ++ [c] ++ List.replicate n c = _
    simp [List.replicate_succ]
theorem mul_list (c : Nat) (n : Int) : (Txt.mul (mkS [c]) n).cps.toList = List.replicate n.toNat c := by
  unfold Txt.mul
  split
  · have : n.toNat = 0 := by omega
    rw [this]; rfl
  · split
    · rename_i h1 h2
      have h3 : n = 1 := by
        rcases Bool.or_eq_true_iff.mp h2 with h | h
        · exact beq_iff_eq.mp h
        · exact absurd h (by rw [mkS_len]; simp)
      subst h3; rfl
    · show ((List.replicate n.toNat (mkS [c]).cps).foldl (· ++ ·) #[]).toList = _
      rw [mul_foldl]; simp
theorem rfind_path (l : List Nat) (c : Nat) (hc : c ≠ 47) : Txt.rfind (pathT (l ++ [c])) (mkS [47]) = 2 * (l.length : Int) := by
  have key : ∀ i, StrLaws.At (pathT (l ++ [c])) (mkS [47]) (pathT (l ++ [c])).length i ↔ (pathL (l ++ [c]))[i]? = some 47 := fun i => StrLaws.subAt_one (pathT (l ++ [c])) 47 i
  have hL : pathL (l ++ [c]) = pathL l ++ [47, c] := by rw [pathL_app]; rfl
  have h1 : (pathL (l ++ [c]))[2 * l.length]? = some 47 := by
    rw [hL, List.getElem?_append_right (by rw [pathL_len]; exact Nat.le_refl _), pathL_len, Nat.sub_self]; rfl
  have h2 : ∀ k, 2 * l.length < k → (pathL (l ++ [c]))[k]? ≠ some 47 := fun k hk e => by
    rw [hL, List.getElem?_append_right (by rw [pathL_len]; omega), pathL_len] at e
    have : k - 2 * l.length = 1 ∨ 2 ≤ k - 2 * l.length := by omega
    rcases this with h | h
    · rw [h] at e; simp at e; exact hc e
    · have e0 : ([47, c] : List Nat)[k - 2 * l.length]? = none := List.getElem?_eq_none_iff.mpr (by simpa using h)
      rw [e0] at e; cases e
  unfold Txt.rfind
  rcases StrLaws.last_spec (pathT (l ++ [c])) (mkS [47]) with ⟨e, hn⟩ | ⟨i, e, hA, hn⟩
  · exact absurd ((key _).mpr h1) (hn _)
  · rw [e]
    have hi : i = 2 * l.length := by
      rcases Nat.lt_trichotomy i (2 * l.length) with h | h | h
      · exact absurd ((key _).mpr h1) (hn _ h)
      · exact h
      · exact absurd ((key i).mp hA) (h2 i h)
    subst hi
    show ((2 * l.length : Nat) : Int) = _
    omega
theorem head_path (l : List Nat) (c : Nat) (hc : c ≠ 47) : headOf (pathT (l ++ [c])) = mkS (pathL l ++ [47]) := by
  unfold headOf
  rw [slash_mk, rfind_path l c hc]
  have hL : pathL (l ++ [c]) = pathL l ++ [47, c] := by rw [pathL_app]; rfl
  have h := StrLaws.sliceText_to (x := pathT (l ++ [c])) (j := 2 * (l.length : Int) + 1) ⟨by omega, by
    show _ ≤ (((pathL (l ++ [c])).length : Nat) : Int)
    rw [pathL_len, List.length_append]; simp; omega⟩
  refine Eq.trans h ?_
  show mkS _ = _
  congr 1
  show List.take (2 * (l.length : Int) + 1 - 0).toNat (List.drop 0 (pathL (l ++ [c]))) = _
  rw [List.drop_zero, hL, show (2 * (l.length : Int) + 1 - 0).toNat = (pathL l).length + 1 from by rw [pathL_len]; omega, List.take_append]
  simp
  exact List.take_of_length_le (by omega)
theorem dir_path {l : List Nat} {c : Nat} (hl : Let (l ++ [c])) : dirnameF (pathT (l ++ [c])) = if l = [] then Str.ofString "/" else pathT l := by
  have hc := (hl c (by simp)).1
  unfold dirnameF
  rw [head_path l c hc]
  have e1 : (((mkS (pathL l ++ [47])).length : Int) != 0) = true := by
    rw [mkS_len, List.length_append]
    have : (((pathL l).length + [47].length : Nat) : Int) ≠ 0 := by simp; omega
    simpa using this
  rw [if_pos e1, slash_mk, mul_list, mkS_cps, mkS_len, List.length_append, pathL_len]
  by_cases h : l = []
  · subst h
    rw [if_pos rfl]
    rw [if_neg (by decide)]
    rfl
  · rw [if_neg h]
    obtain ⟨r, a, e3⟩ : ∃ r a, l = r ++ [a] := ⟨l.dropLast, l.getLast h, (List.dropLast_concat_getLast h).symm⟩
    have ha : a ≠ 47 := (hl a (by rw [e3]; simp)).1
    have hne : ((pathL l ++ [47]) != List.replicate (((2 * l.length + [47].length : Nat) : Int)).toNat 47) = true := by
      rw [bne_iff_ne]
      intro e
      have hm : a ∈ pathL l ++ [47] := by rw [e3, pathL_app]; simp [pathL]
      rw [e] at hm
      exact ha (List.eq_of_mem_replicate hm)
    rw [if_pos hne]
    have hL : pathL l = pathL r ++ [47, a] := by rw [e3, pathL_app]; rfl
    have hgo : ((mkS [47]).cps.contains : Nat → Bool) = fun x => x == 47 := by
      funext x; simp [mkS, Bool.beq_eq_decide_eq]
    have hhi : stripHi (mkS [47]).cps.contains true (mkS (pathL l ++ [47])) 0 = (pathL l).length := by
      unfold stripHi
      rw [if_pos rfl, mkS_len, mkS_cps, List.drop_zero, hgo, List.reverse_append, hL, List.reverse_append]
      simp [ha]
    unfold Txt.rstripChars Txt.stripBy stripSame PySem.stripped
    have hlo : stripLo (mkS [47]).cps.contains false (mkS (pathL l ++ [47])) = 0 := rfl
    rw [hlo, hhi, mkS_len, List.length_append]
    rw [if_neg (by simp)]
    refine s_ext ?_
    rw [StrLaws.strSub_toList, mkS_cps, List.drop_zero]
    show List.take ((pathL l).length - 0) (pathL l ++ [47]) = pathL l
    rw [Nat.sub_zero, List.take_left]

/-! split, comps, commonpath -/
theorem split_path {l : List Nat} (hl : Let l) : Txt.split (pathT l) (mkS [47]) = Str.empty :: l.map sg := by
  have h1 := StrLaws.join_split (pathT l) (mkS [47])
  have h2 := StrLaws.split_free (pathT l) 47
  have h2' : ∀ p ∈ Txt.split (pathT l) (mkS [47]), 47 ∉ p.cps.toList := h2
  have hne : ∃ p r, Txt.split (pathT l) (mkS [47]) = p :: r := by
    unfold Txt.split
    split
    · exact ⟨_, _, rfl⟩
    · split
      · exact ⟨_, _, rfl⟩
      · rw [StrLaws.partsBetween_eq]; exact StrLaws.partsFrom_ne _ _ _ _
  obtain ⟨p, r, e⟩ := hne
  rw [e] at h1 h2' ⊢
  refine parts_eq (c := 47) r (l.map sg) p Str.empty h2' (fun q hq => ?_) ?_
  · rcases List.mem_cons.mp hq with rfl | hq
    · exact fun h => nomatch h
    · obtain ⟨c, hc, rfl⟩ := List.mem_map.mp hq
      intro h
      have h' : 47 = c := by simpa [sg] using h
      exact (hl c hc).1 h'.symm
  · rw [← join_list, h1]
    show pathL l = [] ++ _
    rw [List.nil_append, List.flatMap_map]
    rfl
theorem comps_path {l : List Nat} (hl : Let l) : compsF (pathT l) = l.map sg := by
  unfold compsF
  rw [slash_mk, split_path hl, List.filter_cons]
  have e0 : keepC Str.empty = false := by decide
  rw [e0, if_neg (by decide), List.filter_eq_self]
  intro q hq
  obtain ⟨c, hc, rfl⟩ := List.mem_map.mp hq
  have h46 := (hl c hc).2.1
  unfold keepC
  have e1 : (((sg c).length : Int) != 0) = true := rfl
  rw [e1, Bool.true_and, bne_iff_ne]
  intro h
  have h' : [c] = [46] := h
  injection h' with h'
  exact h46 h'
theorem abs_path {l : List Nat} (hl : Let l) (hne : l ≠ []) (h8 : l.length ≤ 8) : AbsPath (pathT l) := by
  have hlen := pathT_len l
  obtain ⟨a, t, rfl⟩ : ∃ a t, l = a :: t := by
    cases l with
    | nil => exact absurd rfl hne
    | cons a t => exact ⟨a, t, rfl⟩
  have hl2 : (a :: t).length = t.length + 1 := rfl
  refine ⟨by rw [hlen]; lia, ?_, ?_, ?_, fun c hc => ?_, by rw [hlen]; lia⟩
  · obtain ⟨f, h1, h2⟩ := StrLaws.occ_tight (pathT (a :: t)) (mkS [47]) (by decide)
    cases e : Builtin.Str.occurrences (pathT (a :: t)) (mkS [47]) 0 (pathT (a :: t)).length ((pathT (a :: t)).length + 1) with
    | nil =>
      rw [e] at h1
      have hf : f = 0 := h1
      exact absurd ((StrLaws.subAt_one (pathT (a :: t)) 47 0).mpr rfl) (h2 0 (by lia))
    | cons x y => rw [slash_mk, e]; rfl
  · rw [slash_mk]; exact starts_mk 47 _
  · rw [slash_mk, split_path hl, List.length_cons, List.length_map]; lia
  · rw [slash_mk, split_path hl] at hc
    rcases List.mem_cons.mp hc with rfl | hc
    · decide
    · obtain ⟨c, _, rfl⟩ := List.mem_map.mp hc
      show 1 ≤ 100
      lia
theorem join_sg (l : List Nat) : mkS [47] ++ Str.join (mkS [47]) (l.map sg) = if l = [] then Str.ofString "/" else pathT l := by
  cases l with
  | nil => rfl
  | cons a t =>
    rw [if_neg (by simp)]
    refine s_ext ?_
    rw [s_app, List.map_cons, join_list, List.flatMap_map]
    rfl
theorem lcp_app : ∀ (b x y : List Str), lcp (b ++ x) (b ++ y) = b ++ lcp x y
  | [], x, y => rfl
  | c :: b, x, y => by
    show (if c.cps.toList != c.cps.toList then [] else c :: lcp (b ++ x) (b ++ y)) = _
    rw [if_neg (by simp), lcp_app b x y]; rfl
theorem lexLt_app : ∀ (b x y : List Str), lexLt (b ++ x) (b ++ y) = lexLt x y
  | [], x, y => rfl
  | c :: b, x, y => by
    show (if c == c then lexLt (b ++ x) (b ++ y) else _) = _
    rw [if_pos (by simp), lexLt_app b x y]
theorem sg_inj {a b : Nat} (h : sg a = sg b) : a = b := by
  have : [a] = [b] := congrArg (fun s : Str => s.cps.toList) h
  injection this
/-- the common path of a path and of one that is told in it, or in what it lies in -/
theorem common_path {b r : List Nat} {c : Nat} (ha : Let (b ++ r)) (hb : Let (b ++ [c])) (hc : c ∉ r) : commonF (pathT (b ++ r)) (pathT (b ++ [c])) = if b = [] then Str.ofString "/" else pathT b := by
  unfold commonF
  rw [comps_path ha, comps_path hb, List.map_append, List.map_append, lexLt_app, lexLt_app, slash_mk]
  have key : lcp (if lexLt ([c].map sg) (r.map sg) then b.map sg ++ [c].map sg else b.map sg ++ r.map sg) (if lexLt (r.map sg) ([c].map sg) then b.map sg ++ [c].map sg else b.map sg ++ r.map sg) = b.map sg := by
    cases r with
    | nil =>
      have e1 : lexLt ([c].map sg) (([] : List Nat).map sg) = false := rfl
      have e2 : lexLt (([] : List Nat).map sg) ([c].map sg) = true := rfl
      rw [e1, e2, if_neg (by decide), if_pos rfl, lcp_app]
      show _ ++ [] = _
      rw [List.append_nil]
    | cons x r =>
      have hx : x ≠ c := fun e => hc (e ▸ List.mem_cons_self)
      have f1 : (sg c == sg x) = false := by simp only [beq_eq_false_iff_ne, ne_eq]; exact fun e => hx (sg_inj e).symm
      have f2 : (sg x == sg c) = false := by simp only [beq_eq_false_iff_ne, ne_eq]; exact fun e => hx (sg_inj e)
      have e1 : lexLt ([c].map sg) ((x :: r).map sg) = decide (c < x) := by
        show (if sg c == sg x then _ else decide ([c] < [x])) = _
        rw [if_neg (by rw [f1]; decide)]
        simp [List.cons_lt_cons_iff]
      have e2 : lexLt ((x :: r).map sg) ([c].map sg) = decide (x < c) := by
        show (if sg x == sg c then _ else decide ([x] < [c])) = _
        rw [if_neg (by rw [f2]; decide)]
        simp [List.cons_lt_cons_iff]
      have g1 : lcp ([c].map sg) ((x :: r).map sg) = [] := by
        show (if [c] != [x] then [] else _) = _
        rw [if_pos (by simp; exact fun e => hx e.symm)]
      have g2 : lcp ((x :: r).map sg) ([c].map sg) = [] := by
        show (if [x] != [c] then [] else _) = _
        rw [if_pos (by simp; exact fun e => hx e)]
      rw [e1, e2]
      rcases Nat.lt_or_gt_of_ne hx with h | h
      · rw [show decide (c < x) = false from by simp; lia, show decide (x < c) = true from by simp; lia, if_neg (by decide), if_pos rfl, lcp_app, g2, List.append_nil]
      · rw [show decide (c < x) = true from by simp; lia, show decide (x < c) = false from by simp; lia, if_pos rfl, if_neg (by decide), lcp_app, g1, List.append_nil]
  rw [key, join_sg, slash_mk]
/-! count of one sign -/
theorem count_flat (c : Nat) : ∀ r : List Str, (∀ q ∈ r, c ∉ q.cps.toList) → (r.flatMap fun q => c :: q.cps.toList).count c = r.length
  | [], _ => rfl
  | q :: r, h => by
    rw [List.flatMap_cons, List.count_append, List.count_cons_self, List.count_eq_zero.mpr (h q List.mem_cons_self), count_flat c r fun x hx => h x (List.mem_cons_of_mem _ hx), List.length_cons]
    lia
theorem partsFrom_len (x : Str) (w : Nat) : ∀ (cuts : List Nat) (a : Nat), (StrLaws.partsFrom x w a cuts).length = cuts.length + 1
  | [], _ => rfl
  | c :: r, a => by
    show (_ :: StrLaws.partsFrom x w (c + w) r).length = _
    rw [List.length_cons, partsFrom_len x w r]; rfl
theorem count_one (x : Str) (c : Nat) : Txt.count x (mkS [c]) = (x.cps.toList.count c : Nat) := by
  obtain ⟨f, h1, h2⟩ := StrLaws.occ_tight x (mkS [c]) (by show 1 ≤ (mkS [c]).length; rw [mkS_len]; exact Nat.le_refl _)
  obtain ⟨f', h3⟩ := StrLaws.occ_chain x (mkS [c]) (x.length + 1)
  have h4 := StrLaws.parts_free x c _ 0 f h1 h2
  have h5 := StrLaws.join_partsFrom x (mkS [c]) _ 0 f' h3
  rw [StrLaws.sub_whole] at h5
  have h6 := partsFrom_len x (mkS [c]).length (Builtin.Str.occurrences x (mkS [c]) 0 x.length (x.length + 1)) 0
  unfold Txt.count
  have h4' : ∀ p ∈ StrLaws.partsFrom x (mkS [c]).length 0 (Builtin.Str.occurrences x (mkS [c]) 0 x.length (x.length + 1)), c ∉ p.cps.toList := h4
  generalize StrLaws.partsFrom x (mkS [c]).length 0 (Builtin.Str.occurrences x (mkS [c]) 0 x.length (x.length + 1)) = ps at h4' h5 h6
  cases ps with
  | nil => simp at h6
  | cons p r =>
    have h7 := congrArg (fun s : Str => s.cps.toList.count c) h5
    rw [join_list, List.count_append, List.count_eq_zero.mpr (h4' p List.mem_cons_self), count_flat c r fun x hx => h4' x (List.mem_cons_of_mem _ hx), Nat.zero_add] at h7
    simp only [List.length_cons, Nat.add_right_cancel_iff] at h6
    rw [← h7, h6]
/-! marks -/
noncomputable def oS (n : Int) : Str := Txt.mul (Str.ofString "o") n
theorem oS_list (n : Int) : (oS n).cps.toList = List.replicate n.toNat 111 := by unfold oS; rw [o_mk, mul_list]
theorem oS_len {n : Int} (h : 0 ≤ n) : ((oS n).length : Int) = n := by rw [s_len, oS_list, List.length_replicate]; lia
theorem oS_cut {n : Int} (h : 1 ≤ n) : Txt.slice (oS n) (some 1) none = oS (n - 1) := by
  have hl := oS_len (n := n) (by lia)
  rw [s_len] at hl
  have h1 := StrLaws.sliceText_from (x := oS n) (i := 1) ⟨by first | decide | lia, by first | (rw [hl]; exact h) | lia⟩
  refine Eq.trans h1 (s_ext ?_)
  rw [oS_list, oS_list]
  show List.take _ ((List.replicate n.toNat 111).drop 1) = _
  rw [List.take_of_length_le (by rw [List.length_drop, List.length_replicate]; lia), List.drop_replicate]
  congr 1
  lia
/-! signs that can stand in a text -/
theorem ok_list (s : Str) : PyData.strOk s = s.cps.toList.all fun c => decide (c < 0x110000) := by
  unfold PyData.strOk
  rw [← Array.all_toList]
theorem ok_of {s : Str} (h : ∀ c ∈ s.cps.toList, c < 128) : PyData.strOk s = true := by
  rw [ok_list, List.all_eq_true]
  intro c hc
  have := h c hc
  exact decide_eq_true (by lia)
theorem path_low {l : List Nat} (hl : Let l) : ∀ c ∈ (pathT l).cps.toList, c < 128 := fun c hc => by
  have hc' : c ∈ l.flatMap fun c => [47, c] := hc
  obtain ⟨a, ha, hm⟩ := List.mem_flatMap.mp hc'
  simp only [List.mem_cons, List.not_mem_nil, or_false] at hm
  rcases hm with rfl | rfl
  · lia
  · exact (hl _ ha).2.2
theorem oS_low (n : Int) : ∀ c ∈ (oS n).cps.toList, c < 128 := fun c hc => by
  rw [oS_list] at hc
  have := List.eq_of_mem_replicate hc
  lia
theorem join_low : ∀ {l : List Str}, (∀ s ∈ l, ∀ c ∈ s.cps.toList, c < 128) → ∀ c ∈ (Str.join (Str.ofString "") l).cps.toList, c < 128
  | [], _, c, hc => nomatch hc
  | [x], h, c, hc => h x List.mem_cons_self c hc
  | x :: y :: r, h, c, hc => by
    have hc' : c ∈ (x ++ Str.ofString "" ++ Str.join (Str.ofString "") (y :: r)).cps.toList := hc
    rw [s_app, s_app] at hc'
    rcases List.mem_append.mp hc' with hm | hm
    · rcases List.mem_append.mp hm with hm | hm
      · exact h x List.mem_cons_self c hm
      · exact nomatch hm
    · exact join_low (fun s hs => h s (List.mem_cons_of_mem _ hs)) c hm
/-! two sorted lists of the same texts are the same -/
theorem nlt_trans {a b c : List Nat} (h1 : ¬ b < a) (h2 : ¬ c < b) : ¬ c < a := by
  have h1' : a ≤ b := h1
  have h2' : b ≤ c := h2
  exact List.le_trans h1' h2'
theorem nlt_anti {a b : List Nat} (h1 : ¬ b < a) (h2 : ¬ a < b) : a = b := List.le_antisymm h1 h2
theorem rising_all : ∀ (l : List Str) (p : Str), risingS p l = true → ∀ q ∈ l, ¬ q.cps.toList < p.cps.toList
  | [], _, _, q, hq => nomatch hq
  | x :: l, p, h, q, hq => by
    have h' : (!Spec.ltCps x.cps.toList p.cps.toList && risingS x l) = true := h
    rw [ltCps_eq, Bool.and_eq_true] at h'
    have h1 : ¬ x.cps.toList < p.cps.toList := by simpa using h'.1
    rcases List.mem_cons.mp hq with rfl | hq
    · exact h1
    · exact nlt_trans h1 (rising_all l x h'.2 q hq)
theorem rising_tail : ∀ (l : List Str) (p : Str), risingS p l = true → sortedS l = true
  | [], _, _ => rfl
  | x :: l, p, h => by
    have h' : (!Spec.ltCps x.cps.toList p.cps.toList && risingS x l) = true := h
    exact (Bool.and_eq_true_iff.mp h').2
theorem sorted_eq : ∀ {xs ys : List Str}, xs.Perm ys → sortedS xs = true → sortedS ys = true → xs = ys
  | [], ys, h, _, _ => (List.nil_perm.mp h).symm
  | x :: xs, [], h, _, _ => absurd h.length_eq (by simp)
  | x :: xs, y :: ys, h, hx, hy => by
    have e : x = y := by
      have hxy : y ∈ x :: xs := h.mem_iff.mpr List.mem_cons_self
      have hyx : x ∈ y :: ys := h.mem_iff.mp List.mem_cons_self
      rcases List.mem_cons.mp hxy with e | h1
      · exact e.symm
      · rcases List.mem_cons.mp hyx with e | h2
        · exact e
        · exact s_ext (nlt_anti (rising_all xs x hx y h1) (rising_all ys y hy x h2))
    subst e
    rw [sorted_eq (List.Perm.cons_inv h) (rising_tail xs x hx) (rising_tail ys x hy)]

/-! rows: filemode and the law's own -/
theorem two_mod (n : Nat) : n % 2 = 0 ∨ n % 2 = 1 := Nat.mod_two_eq_zero_or_one n
theorem and_bit (n k : Nat) : n &&& 2 ^ k = 2 ^ k * (n / 2 ^ k % 2) := by
  have h1 : (n &&& 2 ^ k) / 2 ^ k = n / 2 ^ k % 2 := by
    rw [Nat.and_div_two_pow, Nat.div_self (Nat.two_pow_pos k), Nat.and_one_is_mod]
  have h2 : (n &&& 2 ^ k) % 2 ^ k = 0 := by
    rw [Nat.and_mod_two_pow, Nat.mod_self, Nat.and_zero]
  have h3 := Nat.div_add_mod (n &&& 2 ^ k) (2 ^ k)
  rw [h1, h2] at h3
  lia
theorem and_bits (n a b : Nat) (h : b < a) : n &&& (2 ^ a + 2 ^ b) = 2 ^ a * (n / 2 ^ a % 2) + 2 ^ b * (n % 2 ^ a / 2 ^ b % 2) := by
  have hlt : 2 ^ b < 2 ^ a := Nat.pow_lt_pow_right (by lia) h
  have h1 : (n &&& (2 ^ a + 2 ^ b)) / 2 ^ a = n / 2 ^ a % 2 := by
    rw [Nat.and_div_two_pow, Nat.add_div_left _ (Nat.two_pow_pos a), Nat.div_eq_of_lt hlt, Nat.and_one_is_mod]
  have h2 : (n &&& (2 ^ a + 2 ^ b)) % 2 ^ a = 2 ^ b * (n % 2 ^ a / 2 ^ b % 2) := by
    rw [Nat.and_mod_two_pow, Nat.add_mod_left, Nat.mod_eq_of_lt hlt, and_bit]
  have h3 := Nat.div_add_mod (n &&& (2 ^ a + 2 ^ b)) (2 ^ a)
  rw [h1, h2] at h3
  lia
theorem and_top (n : Nat) : n &&& 61440 = 4096 * (n / 4096 % 16) := by
  have h1 : (n &&& 61440) / 2 ^ 12 = n / 2 ^ 12 % 16 := by
    rw [Nat.and_div_two_pow]
    exact Nat.and_two_pow_sub_one_eq_mod (n / 2 ^ 12) 4
  have h2 : (n &&& 61440) % 2 ^ 12 = 0 := by
    rw [Nat.and_mod_two_pow]
    exact Nat.and_zero _
  have h3 := Nat.div_add_mod (n &&& 61440) (2 ^ 12)
  rw [h1, h2] at h3
  lia
theorem bit_is (n k : Nat) (K : Int) (hK : K = ((2 ^ k : Nat) : Int)) : (Builtin.bitAnd (n : Int) K == K) = decide (n / 2 ^ k % 2 = 1) := by
  subst hK
  rw [bitAnd_pp (Int.natCast_nonneg _) (Int.natCast_nonneg _), Int.toNat_natCast, Int.toNat_natCast, and_bit]
  have h2 : n / 2 ^ k % 2 = 0 ∨ n / 2 ^ k % 2 = 1 := two_mod _
  have hp := Nat.two_pow_pos k
  rcases h2 with h | h
  · rw [h, Nat.mul_zero]
    have : ¬ ((0 : Nat) : Int) = ((2 ^ k : Nat) : Int) := by lia
    rw [beq_eq_false_iff_ne.mpr this]; rfl
  · rw [h, Nat.mul_one]; simp
theorem bits_are (n a b : Nat) (K : Int) (h : b < a) (hK : K = ((2 ^ a + 2 ^ b : Nat) : Int)) : (Builtin.bitAnd (n : Int) K == K) = (decide (n / 2 ^ a % 2 = 1) && decide (n % 2 ^ a / 2 ^ b % 2 = 1)) := by
  subst hK
  rw [bitAnd_pp (Int.natCast_nonneg _) (Int.natCast_nonneg _), Int.toNat_natCast, Int.toNat_natCast, and_bits n a b h]
  have h1 : n / 2 ^ a % 2 = 0 ∨ n / 2 ^ a % 2 = 1 := two_mod _
  have h2 : n % 2 ^ a / 2 ^ b % 2 = 0 ∨ n % 2 ^ a / 2 ^ b % 2 = 1 := two_mod _
  have hp := Nat.two_pow_pos a
  have hq := Nat.two_pow_pos b
  rcases h1 with e1 | e1 <;> rcases h2 with e2 | e2 <;> rw [e1, e2]
  · rw [Nat.mul_zero, Nat.mul_zero]
    have : ¬ ((0 + 0 : Nat) : Int) = ((2 ^ a + 2 ^ b : Nat) : Int) := by lia
    rw [beq_eq_false_iff_ne.mpr this]; rfl
  · rw [Nat.mul_zero, Nat.mul_one]
    have : ¬ ((0 + 2 ^ b : Nat) : Int) = ((2 ^ a + 2 ^ b : Nat) : Int) := by lia
    rw [beq_eq_false_iff_ne.mpr this]; rfl
  · rw [Nat.mul_zero, Nat.mul_one]
    have : ¬ ((2 ^ a + 0 : Nat) : Int) = ((2 ^ a + 2 ^ b : Nat) : Int) := by lia
    rw [beq_eq_false_iff_ne.mpr this]; rfl
  · rw [Nat.mul_one, Nat.mul_one]; simp
theorem fm1 (i : Nat) (m b : Int) (c : Str) (hi : i ≠ 0) : fmChar i m [(b, c)] = if (Builtin.bitAnd m b == b) then c else sg 45 := by
  unfold fmChar
  rw [List.find?_cons]
  have e : fits i m (b, c) = (Builtin.bitAnd m b == b) := by unfold fits; rw [if_neg hi]
  rw [e]
  cases Builtin.bitAnd m b == b
  · simp [hi]
  · rfl
theorem fm3 (i : Nat) (m b1 b2 b3 : Int) (c1 c2 c3 : Str) (hi : i ≠ 0) : fmChar i m [(b1, c1), (b2, c2), (b3, c3)] =
    if (Builtin.bitAnd m b1 == b1) then c1 else if (Builtin.bitAnd m b2 == b2) then c2 else if (Builtin.bitAnd m b3 == b3) then c3 else sg 45 := by
  unfold fmChar
  have e : ∀ b c, fits i m (b, c) = (Builtin.bitAnd m b == b) := fun b c => by unfold fits; rw [if_neg hi]
  simp only [List.find?_cons, e]
  cases Builtin.bitAnd m b1 == b1
  · cases Builtin.bitAnd m b2 == b2
    · cases Builtin.bitAnd m b3 == b3
      · simp [hi]
      · rfl
    · rfl
  · rfl
theorem fm0 (n : Nat) : fmChar 0 (n : Int) [(40960, sg 108), (49152, sg 115), (32768, sg 45), (24576, sg 98), (16384, sg 100), (8192, sg 99), (4096, sg 112)] = sg (headC (n : Int)) := by
  have hv : Builtin.bitAnd (n : Int) 61440 = ((4096 * (n / 4096 % 16) : Nat) : Int) := by
    rw [bitAnd_pp (by lia) (by lia), Int.toNat_natCast]
    exact congrArg Nat.cast (and_top n)
  have hq : ((n : Int) / 4096 % 16).toNat = n / 4096 % 16 := by lia
  have hf : ∀ b, fits 0 (n : Int) b = (((4096 * (n / 4096 % 16) : Nat) : Int) == b.1) := fun b => by unfold fits; rw [if_pos rfl, hv]
  unfold fmChar headC
  rw [hq, show fits 0 (n : Int) = fun b => (((4096 * (n / 4096 % 16) : Nat) : Int) == b.1) from funext hf]
  have hlt : n / 4096 % 16 < 16 := Nat.mod_lt _ (by lia)
  generalize n / 4096 % 16 = q at hlt
  have : ∀ q : Nat, q < 16 → (match (fmTable.getD 0 []).find? (fun b => (((4096 * q : Nat) : Int) == b.1)) with
      | some b => b.2
      | none => if 0 = 0 then sg 63 else sg 45) = sg ((Str.ofString "?pc?d?b?-?l?s???").cps.toList.getD q 0) := by decide +kernel
  exact this q hlt
noncomputable def rwC (c : Bool) (x : Nat) : Nat := if c then x else 45
theorem rwS (c : Prop) [Decidable c] (x : Nat) (s : Str) (h : s = sg x) : (if decide c then s else Str.ofString "-") = sg (rwC (decide c) x) := by
  subst h; unfold rwC; cases decide c <;> rfl
theorem join0 : ∀ (l : List Nat), (Str.join (Str.ofString "") (l.map sg)).cps.toList = l
  | [] => rfl
  | [x] => rfl
  | x :: y :: r => by
    show (sg x ++ Str.ofString "" ++ Str.join (Str.ofString "") ((y :: r).map sg)).cps.toList = _
    rw [s_app, s_app, join0 (y :: r)]; rfl
noncomputable def rowL (m : Int) : List Nat := [headC m, rwC (decide (fig m 0 > 3)) 114, rwC (decide (fig m 0 % 4 > 1)) 119, exC m 0, rwC (decide (fig m 1 > 3)) 114, rwC (decide (fig m 1 % 4 > 1)) 119, exC m 1,
  rwC (decide (fig m 2 > 3)) 114, rwC (decide (fig m 2 % 4 > 1)) 119, exC m 2]
theorem rowS_list (m : Int) : rowS m 3 = mkS (rowL m) := by
  refine s_ext ?_
  simp only [rowS]
  rw [rwS (fig m 0 > 3) 114 (Str.ofString "r") rfl, rwS (fig m 0 % 4 > 1) 119 (Str.ofString "w") rfl, rwS (fig m 1 > 3) 114 (Str.ofString "r") rfl, rwS (fig m 1 % 4 > 1) 119 (Str.ofString "w") rfl, rwS (fig m 2 > 3) 114 (Str.ofString "r") rfl, rwS (fig m 2 % 4 > 1) 119 (Str.ofString "w") rfl]
  simp only [s_app]
  rfl
theorem fm_r (i : Nat) (n k : Nat) (K : Int) (x : Nat) (hi : i ≠ 0) (hK : K = ((2 ^ k : Nat) : Int)) : fmChar i (n : Int) [(K, sg x)] = sg (rwC (decide (n / 2 ^ k % 2 = 1)) x) := by
  rw [fm1 i _ _ _ hi, bit_is n k K hK]
  unfold rwC
  cases decide (n / 2 ^ k % 2 = 1) <;> rfl
theorem fm_x (i : Nat) (n a b : Nat) (K1 K2 K3 : Int) (x y : Nat) (hi : i ≠ 0) (hab : b < a) (h1 : K1 = ((2 ^ a + 2 ^ b : Nat) : Int)) (h2 : K2 = ((2 ^ a : Nat) : Int)) (h3 : K3 = ((2 ^ b : Nat) : Int)) :
    fmChar i (n : Int) [(K1, sg x), (K2, sg y), (K3, sg 120)] = sg (if n / 2 ^ a % 2 = 1 then (if n % 2 ^ a / 2 ^ b % 2 = 1 then x else y) else if n / 2 ^ b % 2 = 1 then 120 else 45) := by
  rw [fm3 i _ _ _ _ _ _ _ hi, bits_are n a b K1 hab h1, bit_is n a K2 h2, bit_is n b K3 h3]
  by_cases e1 : n / 2 ^ a % 2 = 1
  · by_cases e2 : n % 2 ^ a / 2 ^ b % 2 = 1 <;> simp [e1, e2]
  · by_cases e3 : n / 2 ^ b % 2 = 1 <;> simp [e1, e3]
theorem fig0 (n : Nat) : fig (n : Int) 0 = ((n / 64 % 8 : Nat) : Int) := by
  unfold fig
  show (n : Int) / 64 % 8 = _
  lia
theorem fig1 (n : Nat) : fig (n : Int) 1 = ((n / 8 % 8 : Nat) : Int) := by
  unfold fig
  show (n : Int) / 8 % 8 = _
  lia
theorem fig2 (n : Nat) : fig (n : Int) 2 = ((n % 8 : Nat) : Int) := by
  unfold fig
  show (n : Int) / 1 % 8 = _
  lia
theorem dec_iff {p q : Prop} [Decidable p] [Decidable q] (h : p ↔ q) : decide p = decide q := decide_eq_decide.mpr h
theorem ex_at {n a b : Nat} {x y : Nat} {p r : Prop} {dp : Decidable p} {dr : Decidable r} (hp : p ↔ n / a % 2 = 1) (hr : r ↔ ¬ n / b % 2 = 1) (hq : n % a / b % 2 = n / b % 2) :
    (if p then (if r then y else x) else (if r then 45 else 120)) = if n / a % 2 = 1 then (if n % a / b % 2 = 1 then x else y) else if n / b % 2 = 1 then 120 else 45 := by
  rw [hq]
  by_cases h1 : n / a % 2 = 1
  · rw [if_pos h1, if_pos (hp.mpr h1)]
    by_cases h2 : n / b % 2 = 1
    · rw [if_pos h2, if_neg (fun h => (hr.mp h) h2)]
    · rw [if_neg h2, if_pos (hr.mpr h2)]
  · rw [if_neg h1, if_neg (fun h => h1 (hp.mp h))]
    by_cases h2 : n / b % 2 = 1
    · rw [if_pos h2, if_neg (fun h => (hr.mp h) h2)]
    · rw [if_neg h2, if_pos (hr.mpr h2)]
theorem cast_one (x : Nat) : (x : Int) = 1 ↔ x = 1 := Int.ofNat_inj
theorem low_bit (n b c : Nat) : n % (b * (2 * c)) / b % 2 = n / b % 2 := by rw [Nat.mod_mul_right_div_self, Nat.mod_mul_right_mod]
theorem oct_big : ∀ r, r < 8 → (r / 4 = 1 ↔ 3 < r) := by decide
theorem oct_mid : ∀ r, r < 8 → (r / 2 % 2 = 1 ↔ 1 < r % 4) := by decide
theorem even_oct (q : Nat) : ((q % 8 : Nat) : Int) % 2 = 0 ↔ ¬ q % 2 = 1 := by
  rw [← Nat.mod_mod_of_dvd q (show 2 ∣ 8 by decide)]
  refine (Int.ofNat_inj (m := q % 8 % 2) (n := 0)).trans ⟨fun h => by rw [h]; decide, fun h => ?_⟩
  rcases Nat.mod_two_eq_zero_or_one (q % 8) with e | e
  · exact e
  · exact absurd e h
theorem big_oct (q : Nat) : q / 4 % 2 = 1 ↔ ((q % 8 : Nat) : Int) > 3 := by
  rw [← Nat.mod_mul_right_div_self q 4 2]
  exact (oct_big _ (Nat.mod_lt _ (by decide))).trans (Int.ofNat_lt (n := 3)).symm
theorem mid_oct (q : Nat) : q / 2 % 2 = 1 ↔ ((q % 8 : Nat) : Int) % 4 > 1 := by
  rw [← low_bit q 2 2]
  exact (oct_mid _ (Nat.mod_lt _ (by decide))).trans (Int.ofNat_lt (n := 1) (m := q % 8 % 4)).symm
theorem big_at (n b : Nat) : n / (b * 4) % 2 = 1 ↔ ((n / b % 8 : Nat) : Int) > 3 := by rw [← Nat.div_div_eq_div_mul]; exact big_oct _
theorem mid_at (n b : Nat) : n / (b * 2) % 2 = 1 ↔ ((n / b % 8 : Nat) : Int) % 4 > 1 := by rw [← Nat.div_div_eq_div_mul]; exact mid_oct _
theorem exC0 (n : Nat) : exC (n : Int) 0 = if n / 2 ^ 11 % 2 = 1 then (if n % 2 ^ 11 / 2 ^ 6 % 2 = 1 then 115 else 83) else if n / 2 ^ 6 % 2 = 1 then 120 else 45 := by
  unfold exC
  rw [if_neg (show ¬ (0 = 2) by decide)]
  refine ex_at ?_ ?_ ?_
  · exact cast_one (n / 2048 % 2)
  · rw [fig0]; exact even_oct (n / 64)
  · exact low_bit n 64 16
theorem exC1 (n : Nat) : exC (n : Int) 1 = if n / 2 ^ 10 % 2 = 1 then (if n % 2 ^ 10 / 2 ^ 3 % 2 = 1 then 115 else 83) else if n / 2 ^ 3 % 2 = 1 then 120 else 45 := by
  unfold exC
  rw [if_neg (show ¬ (1 = 2) by decide)]
  refine ex_at ?_ ?_ ?_
  · exact cast_one (n / 1024 % 2)
  · rw [fig1]; exact even_oct (n / 8)
  · exact low_bit n 8 64
theorem exC2 (n : Nat) : exC (n : Int) 2 = if n / 2 ^ 9 % 2 = 1 then (if n % 2 ^ 9 / 2 ^ 0 % 2 = 1 then 116 else 84) else if n / 2 ^ 0 % 2 = 1 then 120 else 45 := by
  unfold exC
  rw [if_pos rfl]
  refine ex_at ?_ ?_ ?_
  · exact cast_one (n / 512 % 2)
  · rw [fig2, Nat.pow_zero, Nat.div_one]; exact even_oct n
  · exact low_bit n 1 256
theorem row_eq (n : Nat) : fmRow (n : Int) = rowS (n : Int) 3 := by
  rw [rowS_list]
  have key : fmFrom (n : Int) 0 fmTable = (rowL (n : Int)).map sg := by
    unfold fmTable rowL
    simp only [fmFrom, List.map_cons, List.map_nil, Nat.zero_add, Nat.reduceAdd]
    rw [fm0 n, fm_r 1 n 8 256 114 (by decide) rfl, fm_r 2 n 7 128 119 (by decide) rfl, fm_x 3 n 11 6 2112 2048 64 115 83 (by decide) (by decide) rfl rfl rfl,
      fm_r 4 n 5 32 114 (by decide) rfl, fm_r 5 n 4 16 119 (by decide) rfl, fm_x 6 n 10 3 1032 1024 8 115 83 (by decide) (by decide) rfl rfl rfl,
      fm_r 7 n 2 4 114 (by decide) rfl, fm_r 8 n 1 2 119 (by decide) rfl, fm_x 9 n 9 0 513 512 1 116 84 (by decide) (by decide) rfl rfl rfl]
    rw [exC0, exC1, exC2, fig0, fig1, fig2]
    rw [dec_iff (big_at n 64 : n / 2 ^ 8 % 2 = 1 ↔ _), dec_iff (mid_at n 64 : n / 2 ^ 7 % 2 = 1 ↔ _), dec_iff (big_at n 8 : n / 2 ^ 5 % 2 = 1 ↔ _), dec_iff (mid_at n 8 : n / 2 ^ 4 % 2 = 1 ↔ _),
      dec_iff (big_oct n : n / 2 ^ 2 % 2 = 1 ↔ _), dec_iff (mid_oct n : n / 2 ^ 1 % 2 = 1 ↔ _)]
  refine s_ext ?_
  unfold fmRow
  rw [key, join0]
  rfl

/-! its count of x -/
theorem headC_low (m : Int) : headC m ≠ 120 ∧ headC m < 128 := by
  have h : ∀ q : Nat, q < 16 → (Str.ofString "?pc?d?b?-?l?s???").cps.toList.getD q 0 ≠ 120 ∧ (Str.ofString "?pc?d?b?-?l?s???").cps.toList.getD q 0 < 128 := by decide +kernel
  exact h _ (by lia)
theorem rwC_low (c : Bool) (x : Nat) (h : x ≠ 120 ∧ x < 128) : rwC c x ≠ 120 ∧ rwC c x < 128 := by unfold rwC; cases c <;> simp [h]
theorem count_row (n : Nat) : (rowL (n : Int)).count 120 = (if exC (n : Int) 0 = 120 then 1 else 0) + (if exC (n : Int) 1 = 120 then 1 else 0) + (if exC (n : Int) 2 = 120 then 1 else 0) := by
  have h0 := (headC_low (n : Int)).1
  have hr := fun c => (rwC_low c 114 (by decide)).1
  have hw := fun c => (rwC_low c 119 (by decide)).1
  unfold rowL
  simp only [List.count_cons, List.count_nil, beq_iff_eq, h0, hr, hw, if_false]
  lia
theorem isX_at {n : Nat} {k : Nat} (a b : Nat) (ha : (8 : Int) ^ k = (a : Nat)) (hb : (2 : Int) ^ (9 + k) = (b : Nat)) : isX (n : Int) k = (decide (n / a % 2 = 1) && decide (n / b % 2 = 0)) := by
  unfold isX
  rw [ha, hb]
  congr 1
  · have : (n : Int) / (a : Nat) % 2 = ((n / a % 2 : Nat) : Int) := by lia
    rw [this, Bool.eq_iff_iff]
    simp only [beq_iff_eq, decide_eq_true_eq]
    lia
  · have : (n : Int) / (b : Nat) % 2 = ((n / b % 2 : Nat) : Int) := by lia
    rw [this, Bool.eq_iff_iff]
    simp only [beq_iff_eq, decide_eq_true_eq]
    lia
theorem countF_row (n : Nat) : countF (n : Int) = ((rowL (n : Int)).count 120 : Nat) := by
  rw [count_row, exC0, exC1, exC2]
  unfold countF
  have e : List.range 3 = [0, 1, 2] := rfl
  rw [e]
  simp only [List.filter_cons, List.filter_nil]
  rw [isX_at 1 512 rfl rfl, isX_at 8 1024 rfl rfl, isX_at 64 2048 rfl rfl]
  simp only [Nat.reducePow]
  have q0 : n / 1 % 2 = 0 ∨ n / 1 % 2 = 1 := two_mod _
  have q1 : n / 8 % 2 = 0 ∨ n / 8 % 2 = 1 := two_mod _
  have q2 : n / 64 % 2 = 0 ∨ n / 64 % 2 = 1 := two_mod _
  have p0 : n / 512 % 2 = 0 ∨ n / 512 % 2 = 1 := two_mod _
  have p1 : n / 1024 % 2 = 0 ∨ n / 1024 % 2 = 1 := two_mod _
  have p2 : n / 2048 % 2 = 0 ∨ n / 2048 % 2 = 1 := two_mod _
  have hx : ∀ (a b : Nat) (c : Nat) (x y : Nat), (a = 0 ∨ a = 1) → (b = 0 ∨ b = 1) → x ≠ 120 → y ≠ 120 → (if (if b = 1 then (if c = 1 then x else y) else if a = 1 then 120 else 45) = 120 then 1 else 0 : Nat) = if (decide (a = 1) && decide (b = 0)) = true then 1 else 0 := by
    intro a b c x y h1 h2 hx hy
    rcases h2 with rfl | rfl
    · rw [if_neg (show ¬ (0 : Nat) = 1 by decide), show decide ((0 : Nat) = 0) = true from rfl, Bool.and_true]
      rcases h1 with rfl | rfl <;> rfl
    · rw [if_pos rfl, show decide ((1 : Nat) = 0) = false from rfl, Bool.and_false]
      by_cases hc : c = 1
      · rw [if_pos hc, if_neg hx]; rfl
      · rw [if_neg hc, if_neg hy]; rfl
  rw [hx _ _ _ _ _ q0 p0 (by decide) (by decide), hx _ _ _ _ _ q1 p1 (by decide) (by decide), hx _ _ _ _ _ q2 p2 (by decide) (by decide)]
  generalize (decide (n / 1 % 2 = 1) && decide (n / 512 % 2 = 0)) = u
  generalize (decide (n / 8 % 2 = 1) && decide (n / 1024 % 2 = 0)) = v
  generalize (decide (n / 64 % 2 = 1) && decide (n / 2048 % 2 = 0)) = w
  clear hx q0 q1 q2 p0 p1 p2 e
  cases u <;> cases v <;> cases w <;> rfl
theorem countF_range (m : Int) : 0 ≤ countF m ∧ countF m ≤ 3 := by
  unfold countF
  have := List.length_filter_le (isX m) (List.range 3)
  rw [List.length_range] at this
  lia
theorem count_fm (n : Nat) : Txt.count (fmRow (n : Int)) (Str.ofString "x") = countF (n : Int) := by
  rw [x_mk, count_one, row_eq, rowS_list, countF_row]; rfl
theorem row_low (n : Nat) : PyData.strOk (rowS (n : Int) 3) = true := by
  rw [rowS_list]
  refine ok_of fun c hc => ?_
  have hc' : c ∈ rowL (n : Int) := hc
  have h0 := (headC_low (n : Int)).2
  have hr := fun c => (rwC_low c 114 (by decide)).2
  have hw := fun c => (rwC_low c 119 (by decide)).2
  have he : ∀ k, exC (n : Int) k < 128 := fun k => by unfold exC; repeat' split <;> first | lia | skip
  unfold rowL at hc'
  simp only [List.mem_cons, List.not_mem_nil, or_false] at hc'
  rcases hc' with rfl | rfl | rfl | rfl | rfl | rfl | rfl | rfl | rfl | rfl <;> first | exact h0 | exact hr _ | exact hw _ | exact he _

/-! heights -/
noncomputable def cAt (cs : List Int) (n : Nat) : Int := cs.getD (n % 8) 0
noncomputable def Hc (cs : List Int) : Nat → Int
  | 0 => 0
  | n + 1 => Hc cs n + cAt cs n - 1
theorem Hc_succ (cs : List Int) (n : Nat) : Hc cs (n + 1) = Hc cs n + cAt cs n - 1 := rfl
theorem cAt_per (cs : List Int) (n : Nat) : cAt cs (n + 8) = cAt cs n := by unfold cAt; rw [Nat.add_mod_right]
theorem Hc_shift (cs : List Int) : ∀ n, Hc cs (n + 8) = Hc cs n + Hc cs 8
  | 0 => (Int.zero_add _).symm
  | n + 1 => by
    have e : n + 1 + 8 = (n + 8) + 1 := by lia
    rw [e, Hc_succ cs (n + 8), Hc_succ cs n, cAt_per, Hc_shift cs n]; lia
theorem list8 {C : List Int → Prop} (h : ∀ a b c d e f g i, C [a, b, c, d, e, f, g, i]) : ∀ cs : List Int, cs.length = 8 → C cs :=
  uncons fun a => uncons (C := fun l => C (a :: l)) fun b => uncons (C := fun l => C (a :: b :: l)) fun c => uncons (C := fun l => C (a :: b :: c :: l)) fun d => uncons (C := fun l => C (a :: b :: c :: d :: l)) fun e =>
    all3 (C := fun l => C (a :: b :: c :: d :: e :: l)) (h a b c d e)
theorem Hc_eight {cs : List Int} (h : cs.length = 8) : Hc cs 8 = cs.sum - 8 := by
  refine list8 (C := fun cs => Hc cs 8 = cs.sum - 8) (fun a b c d e f g i => ?_) cs h
  simp [Hc, cAt]
  lia
theorem aboveL_spec (cs : List Int) (s i : Nat) : ∀ n, s + n ≤ i → (∀ k, s + n ≤ k → k < i → Hc cs i < Hc cs k) →
    (∃ j : Nat, aboveL cs (s : Int) n ((s : Int) + n - 1) (Hc cs i - Hc cs (s + n)) = j ∧ s ≤ j ∧ j < i ∧ Hc cs j ≤ Hc cs i ∧ ∀ k, j < k → k < i → Hc cs i < Hc cs k) ∨
    (aboveL cs (s : Int) n ((s : Int) + n - 1) (Hc cs i - Hc cs (s + n)) = (s : Int) - 1 ∧ ∀ k, s ≤ k → k < i → Hc cs i < Hc cs k)
  | 0, _, h => .inr ⟨rfl, h⟩
  | n + 1, hn, h => by
    have e1 : (s : Int) + ((n + 1 : Nat) : Int) - 1 = ((s + n : Nat) : Int) := by lia
    have e2 : ((((s + n : Nat) : Int)) % 8).toNat = (s + n) % 8 := by lia
    have e3 : Hc cs (s + (n + 1)) = Hc cs (s + n) + cAt cs (s + n) - 1 := rfl
    have e4 : Hc cs i - Hc cs (s + (n + 1)) + cs.getD ((s + n) % 8) 0 - 1 = Hc cs i - Hc cs (s + n) := by rw [e3]; unfold cAt; lia
    rw [e1]
    unfold aboveL
    rw [e2, e4]
    by_cases hp : 0 ≤ Hc cs i - Hc cs (s + n)
    · rw [if_pos hp]
      exact .inl ⟨s + n, rfl, by lia, by lia, by lia, fun k h1 h2 => h k (by lia) h2⟩
    · rw [if_neg hp]
      have e5 : ((s + n : Nat) : Int) - 1 = (s : Int) + n - 1 := by lia
      rw [e5]
      refine aboveL_spec cs s i n (by lia) fun k h1 h2 => ?_
      by_cases hk : k = s + n
      · subst hk; lia
      · exact h k (by lia) h2
theorem above_spec (cs : List Int) (s i : Nat) (h : s ≤ i) :
    (∃ j : Nat, above cs (i : Int) (s : Int) = j ∧ s ≤ j ∧ j < i ∧ Hc cs j ≤ Hc cs i ∧ ∀ k, j < k → k < i → Hc cs i < Hc cs k) ∨
    (above cs (i : Int) (s : Int) = (s : Int) - 1 ∧ ∀ k, s ≤ k → k < i → Hc cs i < Hc cs k) := by
  have h1 := aboveL_spec cs s i (i - s) (by lia) (fun k h1 h2 => by lia)
  have e1 : s + (i - s) = i := by lia
  have e2 : (s : Int) + ((i - s : Nat) : Int) - 1 = (i : Int) - 1 := by lia
  have e3 : ((i : Int) - (s : Int)).toNat = i - s := by lia
  rw [e1, e2, Int.sub_self] at h1
  unfold above
  rw [e3]
  exact h1
/-! the least height from j on -/
noncomputable def mnF (H : Nat → Int) (i : Nat) : Nat → Int
  | 0 => H i + 1
  | n + 1 => min (H (i - (n + 1))) (mnF H i n)
noncomputable def Mn (H : Nat → Int) (i j : Nat) : Int := mnF H i (i - j)
section
variable {H : Nat → Int}
theorem sub_pred {i j n : Nat} (h : i - j = n + 1) : i - (j + 1) = n := congrArg Nat.pred h
theorem Mn_lt {i j : Nat} (h : j < i) : Mn H i j = min (H j) (Mn H i (j + 1)) := by
  unfold Mn
  obtain ⟨d, rfl⟩ := Nat.exists_eq_add_of_lt h
  have e : j + d + 1 - j = d + 1 := by rw [Nat.add_assoc, Nat.add_sub_cancel_left]
  rw [sub_pred e, e]
  show min (H (j + d + 1 - (d + 1))) _ = _
  rw [Nat.add_assoc, Nat.add_sub_cancel]
theorem Mn_ge {i j : Nat} (h : i ≤ j) : Mn H i j = H i + 1 := by unfold Mn; rw [Nat.sub_eq_zero_of_le h]; rfl
theorem Mn_le {i : Nat} : ∀ (n j k : Nat), i - j = n → j ≤ k → k < i → Mn H i j ≤ H k
  | 0, j, k, h, h1, h2 => absurd (Nat.lt_of_le_of_lt h1 h2) (Nat.not_lt.mpr (Nat.sub_eq_zero_iff_le.mp h))
  | n + 1, j, k, h, h1, h2 => by
    rw [Mn_lt (Nat.lt_of_le_of_lt h1 h2)]
    rcases Nat.eq_or_lt_of_le h1 with rfl | e
    · exact Int.min_le_left ..
    · exact Int.le_trans (Int.min_le_right ..) (Mn_le n (j + 1) k (sub_pred h) e h2)
theorem min_up (a : Int) : min a (a + 1) = a := Int.min_eq_left (Int.le_add_one (Int.le_refl a))
theorem Mn_all {i : Nat} : ∀ (n j : Nat), i - j = n → (∀ k, j ≤ k → k < i → H i < H k) → Mn H i j = H i + 1
  | 0, j, h, _ => Mn_ge (Nat.sub_eq_zero_iff_le.mp h)
  | n + 1, j, h, ha => by
    have hj := Nat.lt_of_sub_eq_succ h
    rw [Mn_lt hj, Mn_all n (j + 1) (sub_pred h) fun k h1 h2 => ha k (Nat.le_of_succ_le h1) h2]
    exact Int.min_eq_right (ha j (Nat.le_refl _) hj)
theorem Mn_step {i : Nat} (hs : H i ≤ H (i + 1) + 1) : ∀ (n j : Nat), i - j = n → j ≤ i → Mn H (i + 1) j = min (H i) (Mn H i j)
  | 0, j, h, hj => by
    obtain rfl : j = i := Nat.le_antisymm hj (Nat.sub_eq_zero_iff_le.mp h)
    rw [Mn_lt (Nat.lt_succ_self _), Mn_ge (i := j + 1) (Nat.le_refl _), Mn_ge (i := j) (Nat.le_refl _), min_up]
    exact Int.min_eq_left hs
  | n + 1, j, h, hj => by
    have hl := Nat.lt_of_sub_eq_succ h
    rw [Mn_lt (Nat.lt_succ_of_le hj), Mn_lt (i := i) hl, Mn_step hs n (j + 1) (sub_pred h) hl, ← Int.min_assoc, ← Int.min_assoc, Int.min_comm (H j)]
end
theorem Mn_T {cs : List Int} {t i j : Nat} (h : ∀ k, j ≤ k → k < i → Hc cs (t + i) < Hc cs (t + k)) : Mn (Hc cs) (t + i) (t + j) = Hc cs (t + i) + 1 :=
  Mn_all _ (t + j) rfl fun k g1 g2 => by
    obtain ⟨q, rfl⟩ := Nat.exists_eq_add_of_le (Nat.le_trans (Nat.le_add_right t j) g1)
    exact h q (Nat.le_of_add_le_add_left g1) (Nat.lt_of_add_lt_add_left g2)
/-! one turn: where each place hangs, and what is left -/
structure Walked (d a : Nat → Int) (lf : Nat → Nat → Int) : Prop where
  born : ∀ j, lf (j + 1) j = d j
  step : ∀ i j, j < i → lf (i + 1) j = lf i j - if a i = (j : Int) then 1 else 0
  nonneg : ∀ i j, j < i → 0 ≤ lf i j
  top : ∀ i, a i = -1 ∨ ∃ p : Nat, a i = (p : Int) ∧ p < i ∧ 0 < lf i p
  last : ∀ i j, j < i → 0 < lf i j → (j : Int) ≤ a i
noncomputable def aT (cs : List Int) (t i : Nat) : Int := above cs ((t : Int) + (i : Int)) (t : Int) - (t : Int)
noncomputable def lfT (cs : List Int) (t i j : Nat) : Int := Mn (Hc cs) (t + i) (t + j + 1) - Mn (Hc cs) (t + i) (t + j)
theorem aT_spec (cs : List Int) (t i : Nat) :
    (∃ p : Nat, aT cs t i = p ∧ p < i ∧ Hc cs (t + p) ≤ Hc cs (t + i) ∧ ∀ k, p < k → k < i → Hc cs (t + i) < Hc cs (t + k)) ∨ (aT cs t i = -1 ∧ ∀ k, k < i → Hc cs (t + i) < Hc cs (t + k)) := by
  unfold aT
  rw [← Int.natCast_add]
  rcases above_spec cs t (t + i) (Nat.le_add_right t i) with ⟨j, h1, h2, h3, h4, h5⟩ | ⟨h1, h2⟩
  · obtain ⟨p, rfl⟩ := Nat.exists_eq_add_of_le h2
    exact .inl ⟨p, by rw [h1]; lia, Nat.lt_of_add_lt_add_left h3, h4, fun k hk1 hk2 => h5 (t + k) (Nat.add_lt_add_left hk1 t) (Nat.add_lt_add_left hk2 t)⟩
  · exact .inr ⟨by rw [h1]; lia, fun k hk => h2 (t + k) (Nat.le_add_right t k) (Nat.add_lt_add_left hk t)⟩
theorem cAt_nn {cs : List Int} (h : ∀ c ∈ cs, 0 ≤ c) (hl : cs.length = 8) (n : Nat) : 0 ≤ cAt cs n := h _ (getD_mem (by lia))
theorem Hc_down {cs : List Int} (h : ∀ c ∈ cs, 0 ≤ c) (hl : cs.length = 8) (n : Nat) : Hc cs n ≤ Hc cs (n + 1) + 1 := by
  rw [Hc_succ, Int.sub_add_cancel]
  exact Int.le_add_of_nonneg_right (cAt_nn h hl n)
theorem ne_cast {a b : Nat} (h : a ≠ b) : ¬ (a : Int) = (b : Int) := fun e => h (Int.ofNat.inj e)
theorem wa1 {a b : Int} (h : b ≤ a) : min a (a + 1) - min a (min b (a + 1)) = a + 1 - min b (a + 1) - 1 := by
  rw [min_up, Int.min_eq_left (Int.le_trans h (Int.le_add_one (Int.le_refl a))), Int.min_eq_right h]; lia
theorem wa2 {a b c : Int} (h1 : c ≤ a) (h2 : min b c ≤ a) : min a c - min a (min b c) = c - min b c := by
  rw [Int.min_eq_right h1, Int.min_eq_right h2]
theorem walked {cs : List Int} (h : ∀ c ∈ cs, 0 ≤ c) (hl : cs.length = 8) (t : Nat) : Walked (fun i => cAt cs (t + i)) (aT cs t) (lfT cs t) where
  born := fun j => by
    unfold lfT
    rw [show t + (j + 1) = t + j + 1 from rfl, Mn_ge (Nat.le_refl _), Mn_lt (i := t + j + 1) (j := t + j) (Nat.lt_succ_self _), Mn_ge (Nat.le_refl _), Int.min_eq_left (Hc_down h hl (t + j)), Hc_succ, Int.sub_add_cancel, Int.add_comm, Int.add_sub_cancel]
  step := fun i j hj => by
    have hd := Hc_down h hl (t + i)
    unfold lfT
    have hji : t + j < t + i := Nat.add_lt_add_left hj t
    rw [show t + (i + 1) = t + i + 1 from rfl, Mn_step hd _ (t + j + 1) rfl hji, Mn_step hd _ (t + j) rfl (Nat.le_of_lt hji)]
    have hm : Mn (Hc cs) (t + i) (t + j) = min (Hc cs (t + j)) (Mn (Hc cs) (t + i) (t + j + 1)) := Mn_lt hji
    rcases aT_spec cs t i with ⟨p, h1, h2, h3, h4⟩ | ⟨h1, h2⟩
    · rw [h1]
      rcases Nat.lt_trichotomy p j with hp | hp | hp
      · rw [if_neg (ne_cast (Nat.ne_of_lt hp)), Mn_T fun k g1 g2 => h4 k (Nat.lt_of_lt_of_le hp g1) g2, show t + j + 1 = t + (j + 1) from rfl, Mn_T fun k g1 g2 => h4 k (Nat.lt_of_lt_of_le hp (Nat.le_of_succ_le g1)) g2, Int.sub_self, Int.sub_self]
        rfl
      · subst hp
        rw [if_pos rfl, hm, show t + p + 1 = t + (p + 1) from rfl, Mn_T fun k g1 g2 => h4 k g1 g2]
        exact wa1 h3
      · rw [if_neg (ne_cast (Nat.ne_of_gt hp)), hm, Int.sub_zero]
        have e2 := Int.le_trans (Mn_le (H := Hc cs) (i := t + i) _ (t + j + 1) (t + p) rfl (Nat.add_lt_add_left hp t) (Nat.add_lt_add_left h2 t)) h3
        exact wa2 e2 (Int.le_trans (Int.min_le_right ..) e2)
    · rw [h1, if_neg (fun e => by cases e), Mn_T fun k g1 g2 => h2 k g2, show t + j + 1 = t + (j + 1) from rfl, Mn_T fun k g1 g2 => h2 k g2, Int.sub_self, Int.sub_self]
      rfl
  nonneg := fun i j hj => by
    unfold lfT
    rw [show Mn (Hc cs) (t + i) (t + j) = min (Hc cs (t + j)) (Mn (Hc cs) (t + i) (t + j + 1)) from Mn_lt (Nat.add_lt_add_left hj t)]
    exact Int.sub_nonneg_of_le (Int.min_le_right ..)
  top := fun i => by
    rcases aT_spec cs t i with ⟨p, h1, h2, h3, h4⟩ | ⟨h1, h2⟩
    · refine .inr ⟨p, h1, h2, ?_⟩
      unfold lfT
      rw [show Mn (Hc cs) (t + i) (t + p) = min (Hc cs (t + p)) (Mn (Hc cs) (t + i) (t + p + 1)) from Mn_lt (Nat.add_lt_add_left h2 t), show t + p + 1 = t + (p + 1) from rfl, Mn_T fun k g1 g2 => h4 k g1 g2]
      exact Int.sub_pos_of_lt (Int.lt_of_le_of_lt (Int.min_le_left ..) (Int.lt_add_one_of_le h3))
    · exact .inl h1
  last := fun i j hj hlf => by
    unfold lfT at hlf
    have no : (∀ k, j ≤ k → k < i → Hc cs (t + i) < Hc cs (t + k)) → (j : Int) ≤ aT cs t i := fun hk => by
      rw [Mn_T hk, show t + j + 1 = t + (j + 1) from rfl, Mn_T fun k g1 g2 => hk k (Nat.le_of_succ_le g1) g2, Int.sub_self] at hlf
      exact absurd hlf (Int.lt_irrefl 0)
    rcases aT_spec cs t i with ⟨p, h1, h2, h3, h4⟩ | ⟨h1, h2⟩
    · by_cases hp : j ≤ p
      · rw [h1]; exact Int.ofNat_le.mpr hp
      · exact no fun k g1 g2 => h4 k (Nat.lt_of_lt_of_le (Nat.not_le.mp hp) g1) g2
    · exact no fun k g1 g2 => h2 k g2
/-! turns at which nothing is left -/
noncomputable def GoodT (cs : List Int) (t : Nat) : Prop := ∀ k, k < 8 → Hc cs (t + 8) < Hc cs (t + k)
theorem left_none {cs : List Int} {t : Nat} (h : ∀ j, j < 8 → lfT cs t 8 j = 0) : GoodT cs t := by
  have key : ∀ n, n ≤ 8 → ∀ j, j + n = 8 → Mn (Hc cs) (t + 8) (t + j) = Hc cs (t + 8) + 1 := by
    intro n
    induction n with
    | zero => intro _ j e; rw [show j = 8 from e]; exact Mn_ge (Nat.le_refl _)
    | succ n ih =>
      intro hn j e
      have hj : j < 8 := Nat.lt_of_lt_of_le (Nat.lt_add_of_pos_right (Nat.succ_pos n)) (Nat.le_of_eq e)
      have h1 := h j hj
      unfold lfT at h1
      rw [show t + j + 1 = t + (j + 1) from rfl, ih (Nat.le_of_succ_le hn) (j + 1) (by rw [← e]; exact Nat.succ_add_eq_add_succ ..)] at h1
      exact (Int.eq_of_sub_eq_zero h1).symm
  intro k hk
  have := Mn_le (H := Hc cs) (i := t + 8) _ (t + 0) (t + k) rfl (Nat.add_le_add_left (Nat.zero_le k) t) (Nat.add_lt_add_left hk t)
  rw [key 8 (Nat.le_refl _) 0 rfl] at this
  exact this
theorem none_left {cs : List Int} {t : Nat} (h : GoodT cs t) {j : Nat} (hj : j < 8) : lfT cs t 8 j = 0 := by
  unfold lfT
  rw [Mn_T fun k g1 g2 => h k g2, show t + j + 1 = t + (j + 1) from rfl, Mn_T fun k g1 g2 => h k g2, Int.sub_self]

/-! how many turns leave nothing -/
noncomputable def goodB (cs : List Int) (t : Nat) : Bool := (List.range 8).all fun k => decide (Hc cs (t + 8) < Hc cs (t + k))
theorem goodB_iff {cs : List Int} {t : Nat} : goodB cs t = true ↔ GoodT cs t := by
  unfold goodB GoodT
  rw [List.all_eq_true]
  exact ⟨fun h k hk => of_decide_eq_true (h k (List.mem_range.mpr hk)), fun h k hk => decide_eq_true (h k (List.mem_range.mp hk))⟩
noncomputable def mu (H : Nat → Int) : Nat → Int
  | 0 => H 0
  | n + 1 => min (mu H n) (H (n + 1))
theorem mu_le {H : Nat → Int} : ∀ (n s : Nat), s ≤ n → mu H n ≤ H s
  | 0, s, h => by
    obtain rfl : s = 0 := Nat.le_zero.mp h
    exact Int.le_refl _
  | n + 1, s, h => by
    show min (mu H n) (H (n + 1)) ≤ _
    rcases Nat.eq_or_lt_of_le h with rfl | e
    · exact Int.min_le_right ..
    · exact Int.le_trans (Int.min_le_left ..) (mu_le (H := H) n s (Nat.le_of_lt_succ e))
theorem mu_att {H : Nat → Int} : ∀ n : Nat, ∃ s, s ≤ n ∧ mu H n = H s
  | 0 => ⟨0, Nat.le_refl _, rfl⟩
  | n + 1 => by
    obtain ⟨s, h1, h2⟩ := mu_att (H := H) n
    by_cases e : mu H n ≤ H (n + 1)
    · exact ⟨s, Nat.le_succ_of_le h1, (Int.min_eq_left e).trans h2⟩
    · exact ⟨n + 1, Nat.le_refl _, Int.min_eq_right (Int.le_of_lt (Int.not_le.mp e))⟩
theorem gc1 {k u v w : Int} (h3 : u ≤ v + 1) (h4 : w ≤ u) (hg : v < w) : k - w + ((1 : Nat) : Int) = k - min w v := by
  rw [Int.min_eq_right (Int.le_of_lt hg)]; lia
theorem gc2 {T c m : Int} (hT : T = c - 8) (hn : T < 0) : m - (m + T) = max (8 - c) 0 := by lia
theorem gc3 {T c : Int} (hT : T = c - 8) (hn : ¬ T < 0) : (([] : List Nat).length : Int) = max (8 - c) 0 := by show (0 : Int) = _; lia
theorem good_count {cs : List Int} (h : ∀ c ∈ cs, 0 ≤ c) (hl : cs.length = 8) : (((List.range 8).filter (goodB cs)).length : Int) = max (8 - cs.sum) 0 := by
  have hT : Hc cs 8 = cs.sum - 8 := Hc_eight hl
  by_cases hneg : Hc cs 8 < 0
  · have hd := Hc_down h hl
    have good_iff : ∀ t, t < 8 → goodB cs t = decide (Hc cs (t + 8) < mu (Hc cs) (t + 7)) := fun t ht => by
      rw [Bool.eq_iff_iff, goodB_iff, decide_eq_true_eq]
      constructor
      · intro hg
        obtain ⟨s, h1, h2⟩ := mu_att (H := Hc cs) (t + 7)
        rw [h2]
        by_cases hs : t ≤ s
        · obtain ⟨d, rfl⟩ := Nat.exists_eq_add_of_le hs
          exact hg d (Nat.lt_succ_of_le (Nat.le_of_add_le_add_left h1))
        · obtain ⟨d, e⟩ := Nat.exists_eq_add_of_le (show t ≤ s + 8 by lia)
          have h3 := hg d (by lia)
          rw [← e, Hc_shift cs s] at h3
          exact Int.lt_of_lt_of_le h3 (Int.le_trans (Int.add_le_add_left (Int.le_of_lt hneg) _) (Int.le_of_eq (Int.add_zero _)))
      · intro hm k hk
        exact Int.lt_of_lt_of_le hm (mu_le (H := Hc cs) (t + 7) (t + k) (Nat.add_le_add_left (Nat.le_of_lt_succ hk) t))
    have key : ∀ n, n ≤ 8 → (((List.range n).filter (goodB cs)).length : Int) = mu (Hc cs) 7 - mu (Hc cs) (7 + n) := by
      intro n
      induction n with
      | zero => intro _; exact (Int.sub_self _).symm
      | succ n ih =>
        intro hn
        have h1 := ih (Nat.le_of_succ_le hn)
        have h2 : mu (Hc cs) (7 + (n + 1)) = min (mu (Hc cs) (7 + n)) (Hc cs (n + 8)) := by
          rw [show n + 8 = 7 + n + 1 from Nat.add_comm (n + 1) 7]; rfl
        have h3 := hd (n + 7)
        have h4 := mu_le (H := Hc cs) (7 + n) (n + 7) (Nat.le_of_eq (Nat.add_comm n 7))
        rw [List.range_succ, List.filter_append, List.length_append]
        have h5 := good_iff n hn
        rw [Nat.add_comm n 7] at h5
        rw [h2]
        by_cases hg : Hc cs (n + 8) < mu (Hc cs) (7 + n)
        · rw [decide_eq_true hg] at h5
          rw [show n + 7 + 1 = n + 8 from rfl] at h3
          have : ([n].filter (goodB cs)).length = 1 := by rw [List.filter_cons, h5]; rfl
          rw [this]
          rw [Int.natCast_add, h1]
          exact gc1 h3 h4 hg
        · rw [decide_eq_false hg] at h5
          have : ([n].filter (goodB cs)).length = 0 := by rw [List.filter_cons, h5]; rfl
          rw [this, Int.natCast_add, h1, Int.min_eq_left (Int.not_lt.mp hg)]
          exact Int.add_zero _
    have h8 := key 8 (Nat.le_refl _)
    obtain ⟨s, h1, h2⟩ := mu_att (H := Hc cs) 7
    obtain ⟨r, h3, h4⟩ := mu_att (H := Hc cs) (7 + 8)
    have h5 := mu_le (H := Hc cs) (7 + 8) (s + 8) (Nat.add_le_add_right h1 8)
    rw [Hc_shift cs s, ← h2] at h5
    have h7 : mu (Hc cs) 7 + Hc cs 8 ≤ mu (Hc cs) (7 + 8) := by
      rw [h4]
      by_cases hr : r < 8
      · exact Int.le_trans (Int.add_le_add_left (Int.le_of_lt hneg) _) (Int.le_trans (Int.le_of_eq (Int.add_zero _)) (mu_le (H := Hc cs) 7 r (Nat.le_of_lt_succ hr)))
      · obtain ⟨d, rfl⟩ := Nat.exists_eq_add_of_le (Nat.not_lt.mp hr)
        rw [Nat.add_comm 8 d, Hc_shift cs d]
        exact Int.add_le_add_right (mu_le (H := Hc cs) 7 d (Nat.le_of_add_le_add_right (Nat.le_trans (Nat.le_of_eq (Nat.add_comm d 8)) h3))) _
    rw [h8, Int.le_antisymm h5 h7]
    exact gc2 hT hneg
  · have he : (List.range 8).filter (goodB cs) = [] := by
      rw [List.filter_eq_nil_iff]
      intro t _ hg
      have := goodB_iff.mp hg 0 (Nat.succ_pos _)
      rw [Hc_shift cs t] at this
      exact absurd this (Int.not_lt.mpr (Int.le_trans (Int.le_of_eq (Int.add_zero _).symm) (Int.add_le_add_left (Int.not_lt.mp hneg) _)))
    rw [he]
    exact gc3 hT hneg
/-! the paths -/
theorem nameC_eq (i : Int) : nameC i = 97 + (i % 8).toNat := by
  have h : ∀ q : Nat, q < 8 → (Str.ofString "abcdefgh").cps.toList.getD q 0 = 97 + q := by decide +kernel
  exact h _ (by lia)
theorem name_let (i : Int) : nameC i ≠ 47 ∧ nameC i ≠ 46 ∧ nameC i < 128 := by rw [nameC_eq]; lia
theorem name_inj {i j : Int} (h : nameC i = nameC j) : i % 8 = j % 8 := by rw [nameC_eq, nameC_eq] at h; lia
theorem name_mod (n : Nat) : nameC ((n % 8 : Nat) : Int) = nameC (n : Int) := by
  rw [nameC_eq, nameC_eq]
  show 97 + n % 8 % 8 = 97 + n % 8
  rw [Nat.mod_mod]
theorem getD_app_l {α : Type} {a b : List α} {i : Nat} {d : α} (h : i < a.length) : (a ++ b).getD i d = a.getD i d := by
  rw [List.getD_eq_getElem?_getD, List.getD_eq_getElem?_getD, List.getElem?_append_left h]
theorem getD_app_r {α : Type} {a b : List α} {i : Nat} {d : α} (h : a.length ≤ i) : (a ++ b).getD i d = b.getD (i - a.length) d := by
  rw [List.getD_eq_getElem?_getD, List.getD_eq_getElem?_getD, List.getElem?_append_right h]
noncomputable def ltS (cs : List Int) (t : Nat) : Nat → List (List Nat)
  | 0 => []
  | i + 1 => ltS cs t i ++ [(if 0 ≤ aT cs t i then (ltS cs t i).getD (aT cs t i).toNat [] else []) ++ [nameC ((t : Int) + (i : Int))]]
noncomputable def ltr (cs : List Int) (t i : Nat) : List Nat := (ltS cs t (i + 1)).getD i []
theorem ltS_len (cs : List Int) (t : Nat) : ∀ i, (ltS cs t i).length = i
  | 0 => rfl
  | i + 1 => by unfold ltS; rw [List.length_append, ltS_len cs t i]; rfl
theorem ltS_get (cs : List Int) (t : Nat) : ∀ i j, j < i → (ltS cs t i).getD j [] = ltr cs t j
  | 0, j, h => by lia
  | i + 1, j, h => by
    by_cases e : j = i
    · subst e; rfl
    · have := ltS_get cs t i j (by lia)
      rw [← this]
      show (ltS cs t i ++ _).getD j [] = _
      exact getD_app_l (by rw [ltS_len]; lia)
theorem ltr_eq (cs : List Int) (t i : Nat) : ltr cs t i = (if 0 ≤ aT cs t i then ltr cs t (aT cs t i).toNat else []) ++ [nameC ((t : Int) + (i : Int))] := by
  show (ltS cs t i ++ [_]).getD i [] = _
  have hl := ltS_len cs t i
  rw [getD_app_r (by lia), hl, Nat.sub_self]
  show _ ++ _ = _
  congr 1
  rcases aT_spec cs t i with ⟨p, h1, h2, _⟩ | ⟨h1, _⟩
  · rw [h1, if_pos (by lia), if_pos (by lia), Int.toNat_natCast, ltS_get cs t i p h2]
  · rw [h1, if_neg (by lia), if_neg (by lia)]
theorem ltr_root {cs : List Int} {t i : Nat} (h : aT cs t i = -1) : ltr cs t i = [nameC ((t : Int) + (i : Int))] := by
  rw [ltr_eq, h, if_neg (by lia)]; rfl
theorem ltr_in {cs : List Int} {t i p : Nat} (h : aT cs t i = (p : Int)) : ltr cs t i = ltr cs t p ++ [nameC ((t : Int) + (i : Int))] := by
  rw [ltr_eq, h, if_pos (by lia), Int.toNat_natCast]
theorem ltr_ne (cs : List Int) (t i : Nat) : ltr cs t i ≠ [] := by rw [ltr_eq]; simp
theorem ltr_mem {cs : List Int} {t : Nat} : ∀ (n i : Nat), i ≤ n → ∀ c ∈ ltr cs t i, ∃ j, j ≤ i ∧ c = nameC ((t : Int) + (j : Int))
  | n, i, hn, c, hc => by
    rcases aT_spec cs t i with ⟨p, h1, h2, _⟩ | ⟨h1, _⟩
    · rw [ltr_in h1] at hc
      rcases List.mem_append.mp hc with h | h
      · cases n with
        | zero => lia
        | succ n =>
          obtain ⟨j, g1, g2⟩ := ltr_mem n p (by lia) c h
          exact ⟨j, by lia, g2⟩
      · exact ⟨i, Nat.le_refl _, List.mem_singleton.mp h⟩
    · rw [ltr_root h1] at hc
      exact ⟨i, Nat.le_refl _, List.mem_singleton.mp hc⟩
theorem ltr_len {cs : List Int} {t : Nat} : ∀ (n i : Nat), i ≤ n → (ltr cs t i).length ≤ i + 1
  | n, i, hn => by
    rcases aT_spec cs t i with ⟨p, h1, h2, _⟩ | ⟨h1, _⟩
    · rw [ltr_in h1, List.length_append]
      cases n with
      | zero => lia
      | succ n =>
        have := ltr_len (cs := cs) (t := t) n p (by lia)
        simp; lia
    · rw [ltr_root h1]; simp
theorem ltr_let (cs : List Int) (t i : Nat) : Let (ltr cs t i) := fun c hc => by
  obtain ⟨j, _, rfl⟩ := ltr_mem i i (Nat.le_refl _) c hc
  exact name_let _
theorem ltr_last (cs : List Int) (t i : Nat) : (ltr cs t i).getLast? = some (nameC ((t : Int) + (i : Int))) := by
  rw [ltr_eq]; simp
theorem ltr_inj {cs : List Int} {t i j : Nat} (hi : i < 8) (hj : j < 8) (h : ltr cs t i = ltr cs t j) : i = j := by
  have h1 := ltr_last cs t i
  rw [h, ltr_last] at h1
  injection h1 with h1
  have := name_inj h1
  lia

/-! what _law_wanted tells -/
noncomputable def pT (cs : List Int) (t i : Nat) : Str := pathT (ltr cs t i)
theorem getD_map_range {α : Type} {f : Nat → α} {n i : Nat} {d : α} (h : i < n) : ((List.range n).map f).getD i d = f i := by
  rw [List.getD_eq_getElem?_getD, List.getElem?_map, List.getElem?_range h]; rfl
theorem set_map_range {f : Nat → Int} {n p : Nat} {v : Int} : ((List.range n).map f).set p v = (List.range n).map fun j => if j = p then v else f j := by
  refine List.ext_getElem? fun i => ?_
  rw [List.getElem?_set, List.length_map, List.length_range, List.getElem?_map, List.getElem?_map]
  by_cases hi : i < n
  · rw [List.getElem?_range hi]
    by_cases h : p = i
    · subst h; simp [hi]
    · rw [if_neg h]; simp; intro e; exact absurd e.symm h
  · have e : (List.range n)[i]? = none := List.getElem?_eq_none_iff.mpr (by rw [List.length_range]; lia)
    rw [e]
    by_cases h : p = i
    · subst h; simp; lia
    · rw [if_neg h]; rfl
theorem path_snoc (l : List Nat) (c : Nat) : (pathT l ++ Str.ofString "/") ++ (⟨#[c]⟩ : Str) = pathT (l ++ [c]) := by
  rw [slash_mk, show (⟨#[c]⟩ : Str) = mkS [c] from rfl]
  unfold pathT
  rw [mkS_app, mkS_app, pathL_app, List.append_assoc]; rfl
theorem root_snoc (c : Nat) : (Str.ofString "" ++ Str.ofString "/") ++ (⟨#[c]⟩ : Str) = pathT [c] := rfl
theorem want_eq {cs : List Int} (h : ∀ c ∈ cs, 0 ≤ c) (hl : cs.length = 8) (t : Nat) : ∀ i : Nat, wantS cs (t : Int) i = ((List.range i).map (pT cs t), (List.range i).map (lfT cs t i))
  | 0 => rfl
  | i + 1 => by
    have W := walked h hl t
    show wantStep cs (t : Int) i (wantS cs (t : Int) i) = _
    rw [want_eq h hl t i]
    have ea : above cs ((t : Int) + (i : Int)) (t : Int) - (t : Int) = aT cs t i := rfl
    have em : (((t : Int) + (i : Int)) % 8).toNat = (t + i) % 8 := by lia
    unfold wantStep
    rw [ea, em, List.range_succ, List.map_append, List.map_append]
    have eb : [cs.getD ((t + i) % 8) 0] = [i].map (lfT cs t (i + 1)) := by
      show _ = [lfT cs t (i + 1) i]
      rw [W.born i]; rfl
    rcases aT_spec cs t i with ⟨p, h1, h2, _⟩ | ⟨h1, _⟩
    · rw [h1]
      dsimp only
      rw [if_pos (show (0 : Int) ≤ (p : Int) by lia), if_pos (show (0 : Int) ≤ (p : Int) by lia), Int.toNat_natCast, getD_map_range h2, getD_map_range h2]
      refine Prod.ext ?_ ?_
      · show _ ++ [_] = _ ++ [_]
        congr 2
        show (pathT (ltr cs t p) ++ _) ++ _ = pathT (ltr cs t i)
        rw [path_snoc, ltr_in h1]
      · show (List.set _ _ _) ++ _ = _ ++ _
        rw [set_map_range, eb]
        congr 1
        refine List.map_congr_left fun j hj => ?_
        have hs := W.step i j (List.mem_range.mp hj)
        rw [hs, h1]
        by_cases e : j = p
        · subst e; rw [if_pos rfl, if_pos rfl]
        · rw [if_neg e, if_neg (by lia)]; lia
    · rw [h1]
      dsimp only
      rw [if_neg (show ¬ (0 : Int) ≤ -1 by lia), if_neg (show ¬ (0 : Int) ≤ -1 by lia)]
      refine Prod.ext ?_ ?_
      · show _ ++ [_] = _ ++ [_]
        congr 2
        show (Str.ofString "" ++ _) ++ _ = pathT (ltr cs t i)
        rw [root_snoc, ltr_root h1]
      · show _ ++ _ = _ ++ _
        rw [eb]
        congr 1
        refine List.map_congr_left fun j hj => ?_
        have hs := W.step i j (List.mem_range.mp hj)
        rw [hs, h1, if_neg (by lia)]; lia
noncomputable def roomP (cs : List Int) (t p n : Nat) : List (Str × Str) := ((List.range p).filter fun j => decide (0 < lfT cs t n j)).map fun j => (pT cs t j, oS (lfT cs t n j))
theorem roomP_of {cs : List Int} {t n m : Nat} {L : List Nat} (e : (List.range n).filter (fun j => decide (0 < lfT cs t m j)) = L) : roomP cs t n m = L.map fun j => (pT cs t j, oS (lfT cs t m j)) := by unfold roomP; rw [e]
noncomputable def roomT (cs : List Int) (t n : Nat) : List (Str × Str) := roomP cs t n n
theorem want_rest {cs : List Int} (h : ∀ c ∈ cs, 0 ≤ c) (hl : cs.length = 8) (t : Nat) : wantRest cs (t : Int) = roomT cs t 8 := by
  unfold wantRest roomT roomP
  rw [want_eq h hl t 8]
  have e : (List.range 8).filter (fun i => decide (((List.range 8).map (lfT cs t 8)).getD i 0 > 0)) = (List.range 8).filter (fun j => decide (0 < lfT cs t 8 j)) := by
    refine List.filter_congr fun i hi => ?_
    rw [getD_map_range (List.mem_range.mp hi)]
  show (List.filter (fun i => decide (((List.range 8).map (lfT cs t 8)).getD i 0 > 0)) (List.range 8)).map _ = _
  rw [e]
  refine List.map_congr_left fun i hi => ?_
  have hi8 := List.mem_range.mp (List.mem_filter.mp hi).1
  show (((List.range 8).map (pT cs t)).getD i Str.empty, Txt.mul (Str.ofString "o") (((List.range 8).map (lfT cs t 8)).getD i 0)) = _
  rw [getD_map_range hi8, getD_map_range hi8]; rfl
theorem rest_nil {cs : List Int} (h : ∀ c ∈ cs, 0 ≤ c) (hl : cs.length = 8) (t : Nat) : wantRest cs (t : Int) = [] ↔ GoodT cs t := by
  rw [want_rest h hl t]
  unfold roomT roomP
  rw [List.map_eq_nil_iff, List.filter_eq_nil_iff]
  constructor
  · intro hn
    refine left_none fun j hj => ?_
    have h1 := hn j (List.mem_range.mpr hj)
    have h2 := (walked h hl t).nonneg 8 j hj
    have h3 : ¬ 0 < lfT cs t 8 j := fun e => h1 (decide_eq_true e)
    lia
  · intro hg j hj
    rw [none_left hg (List.mem_range.mp hj)]; decide
theorem rest_good {cs : List Int} (h : ∀ c ∈ cs, 0 ≤ c) (hl : cs.length = 8) (t : Nat) : (wantRest cs (t : Int)).isEmpty = goodB cs t := by
  rw [Bool.eq_iff_iff, List.isEmpty_iff, goodB_iff, rest_nil h hl t]
/-! what is read on the ring -/
theorem filter_top {P : Nat → Bool} {p : Nat} (hp : P p = true) : ∀ n, p < n → (∀ j, p < j → j < n → P j = false) → (List.range n).filter P = (List.range p).filter P ++ [p]
  | 0, h, _ => by lia
  | n + 1, h, hf => by
    rw [List.range_succ, List.filter_append]
    by_cases e : n = p
    · subst e
      congr 1
      rw [List.filter_cons, hp]; rfl
    · rw [filter_top hp n (by lia) fun j h1 h2 => hf j h1 (by lia)]
      have : [n].filter P = [] := by rw [List.filter_cons, hf n (by lia) (by lia)]; rfl
      rw [this, List.append_nil]
theorem room_nil {cs : List Int} (h : ∀ c ∈ cs, 0 ≤ c) (hl : cs.length = 8) {t n : Nat} (ha : aT cs t n = -1) : (List.range n).filter (fun j => decide (0 < lfT cs t n j)) = [] := by
  rw [List.filter_eq_nil_iff]
  intro j hj hd
  have := (walked h hl t).last n j (List.mem_range.mp hj) (of_decide_eq_true hd)
  rw [ha] at this; lia
theorem room_top {cs : List Int} (h : ∀ c ∈ cs, 0 ≤ c) (hl : cs.length = 8) {t n p : Nat} (ha : aT cs t n = (p : Int)) :
    p < n ∧ 0 < lfT cs t n p ∧ (List.range n).filter (fun j => decide (0 < lfT cs t n j)) = (List.range p).filter (fun j => decide (0 < lfT cs t n j)) ++ [p] := by
  have W := walked h hl t
  rcases W.top n with h1 | ⟨q, h1, h2, h3⟩
  · rw [ha] at h1; lia
  · have e : q = p := by rw [ha] at h1; lia
    subst e
    refine ⟨h2, h3, filter_top (decide_eq_true h3) n h2 fun j g1 g2 => ?_⟩
    refine decide_eq_false fun hd => ?_
    have := W.last n j g2 hd
    rw [ha] at this; lia
theorem room_next {cs : List Int} (h : ∀ c ∈ cs, 0 ≤ c) (hl : cs.length = 8) (t n : Nat) :
    roomT cs t (n + 1) = (roomP cs t n (n + 1)) ++ (if 0 < cAt cs (t + n) then [(pT cs t n, oS (cAt cs (t + n)))] else []) := by
  have W := walked h hl t
  unfold roomT roomP
  rw [List.range_succ, List.filter_append, List.map_append]
  congr 1
  rw [List.filter_cons, W.born n]
  by_cases e : 0 < cAt cs (t + n)
  · rw [if_pos e, if_pos (decide_eq_true e), List.filter_nil, List.map_cons, List.map_nil, W.born n]
  · rw [if_neg e, if_neg (by simpa using e), List.filter_nil, List.map_nil]
theorem pre_same {cs : List Int} (h : ∀ c ∈ cs, 0 ≤ c) (hl : cs.length = 8) {t n p : Nat} (ha : aT cs t n = (p : Int)) (hp : p < n) :
    (roomP cs t p (n + 1)) = (roomP cs t p n) := by
  unfold roomP
  have W := walked h hl t
  have e : ∀ j, j < p → lfT cs t (n + 1) j = lfT cs t n j := fun j hj => by
    rw [W.step n j (by lia), ha, if_neg (by lia)]; lia
  rw [List.filter_congr (q := fun j => decide (0 < lfT cs t n j)) fun j hj => by rw [e j (List.mem_range.mp hj)]]
  refine List.map_congr_left fun j hj => ?_
  rw [e j (List.mem_range.mp (List.mem_filter.mp hj).1)]
theorem read_next {cs : List Int} (h : ∀ c ∈ cs, 0 ≤ c) (hl : cs.length = 8) (t n : Nat) (r : Str) (hr : Txt.count r (Str.ofString "x") = cAt cs (t + n)) :
    rstep (r, sg (nameC ((t : Int) + (n : Int)))) ((List.range n).map (pT cs t), roomT cs t n) = ((List.range (n + 1)).map (pT cs t), roomT cs t (n + 1)) := by
  have W := walked h hl t
  have hc := name_let ((t : Int) + (n : Int))
  rw [room_next h hl]
  unfold rstep
  rw [hr]
  rcases aT_spec cs t n with ⟨p, h1, h2, _⟩ | ⟨h1, _⟩
  · obtain ⟨g1, g2, g3⟩ := room_top h hl h1
    have eroom : roomT cs t n = (roomP cs t p n) ++ [(pT cs t p, oS (lfT cs t n p))] := by
      unfold roomT roomP; rw [g3, List.map_append]; rfl
    have elast : (roomT cs t n).getLast?.getD (e0, e0) = (pT cs t p, oS (lfT cs t n p)) := by rw [eroom, List.getLast?_append]; rfl
    have edrop : (roomT cs t n).dropLast = roomP cs t p n := by rw [eroom, List.dropLast_concat]
    have elen : ((oS (lfT cs t n p)).length : Int) = lfT cs t n p := oS_len (by lia)
    have epath : joinF (if (((pT cs t p).length : Int) != 0) = true then pT cs t p else slash) (sg (nameC ((t : Int) + (n : Int)))) = pT cs t n := by
      have hne : (((pT cs t p).length : Int) != 0) = true := by
        unfold pT
        rw [pathT_len]
        have := ltr_ne cs t p
        cases e : ltr cs t p with
        | nil => exact absurd e this
        | cons a l => simp; lia
      rw [if_pos hne]
      unfold pT
      rw [ltr_in h1]
      exact join_path (by rw [← ltr_in h1]; exact ltr_let cs t n) (ltr_ne cs t p)
    have eroom2 : (if ((oS (lfT cs t n p)).length : Int) > 1 then (roomP cs t p n) ++ [(pT cs t p, Txt.slice (oS (lfT cs t n p)) (some 1) none)] else roomP cs t p n)
        = roomP cs t n (n + 1) := by
      rw [elen]
      have es : lfT cs t (n + 1) p = lfT cs t n p - 1 := by rw [W.step n p g1, h1, if_pos rfl]
      have ez : ∀ j, p < j → j < n → decide (0 < lfT cs t (n + 1) j) = false := fun j k1 k2 => by
        refine decide_eq_false fun hd => ?_
        have e1 := W.step n j k2
        rw [h1, if_neg (by lia)] at e1
        have := W.last n j k2 (by lia)
        rw [h1] at this; lia
      by_cases hgt : lfT cs t n p > 1
      · rw [if_pos hgt, roomP_of (filter_top (P := fun j => decide (0 < lfT cs t (n + 1) j)) (p := p) (decide_eq_true (by rw [es]; lia)) n g1 ez), List.map_append]
        show _ = roomP cs t p (n + 1) ++ _
        rw [pre_same h hl h1 g1]
        congr 1
        rw [oS_cut (by lia), ← es]; rfl
      · rw [if_neg hgt]
        rw [← pre_same h hl h1 g1]
        have : (List.range n).filter (fun j => decide (0 < lfT cs t (n + 1) j)) = (List.range p).filter (fun j => decide (0 < lfT cs t (n + 1) j)) := by
          have hn : ∀ m, p ≤ m → m ≤ n → (List.range m).filter (fun j => decide (0 < lfT cs t (n + 1) j)) = (List.range p).filter (fun j => decide (0 < lfT cs t (n + 1) j)) := by
            intro m
            induction m with
            | zero => intro k1 _; have : p = 0 := by lia
                      subst this; rfl
            | succ m ih =>
              intro k1 k2
              by_cases e : p = m + 1
              · subst e; rfl
              · rw [List.range_succ, List.filter_append, ih (by lia) (by lia)]
                have : [m].filter (fun j => decide (0 < lfT cs t (n + 1) j)) = [] := by
                  by_cases em : m = p
                  · subst em
                    rw [List.filter_cons, show decide (0 < lfT cs t (n + 1) m) = false from decide_eq_false (by rw [es]; lia)]; rfl
                  · rw [List.filter_cons, ez m (by lia) (by lia)]; rfl
                rw [this, List.append_nil]
          exact hn n (by lia) (Nat.le_refl _)
        exact (roomP_of this).symm
    dsimp only
    rw [elast, edrop]
    dsimp only
    rw [epath, eroom2, List.range_succ, List.map_append]
    refine Prod.ext rfl ?_
    show (if cAt cs (t + n) > 0 then _ else _) = _
    by_cases e : 0 < cAt cs (t + n)
    · rw [if_pos e, if_pos e]; rfl
    · rw [if_neg e, if_neg e, List.append_nil]
  · have eroom : roomT cs t n = [] := by unfold roomT roomP; rw [room_nil h hl h1]; rfl
    have epath : joinF (if ((e0.length : Int) != 0) = true then e0 else slash) (sg (nameC ((t : Int) + (n : Int)))) = pT cs t n := by
      rw [if_neg (by decide), join_root _ hc.1]
      unfold pT; rw [ltr_root h1]
    have enone : (List.range n).filter (fun j => decide (0 < lfT cs t (n + 1) j)) = [] := by
      rw [List.filter_eq_nil_iff]
      intro j hj hd
      have e1 := W.step n j (List.mem_range.mp hj)
      rw [h1, if_neg (by lia)] at e1
      have hd' := of_decide_eq_true hd
      have := W.last n j (List.mem_range.mp hj) (by lia)
      rw [h1] at this; lia
    rw [eroom, show roomP cs t n (n + 1) = [] from roomP_of enone]
    dsimp only [List.getLast?_nil, Option.getD_none, List.dropLast_nil]
    rw [epath, List.range_succ, List.map_append]
    refine Prod.ext rfl ?_
    show (if cAt cs (t + n) > 0 then (if ((e0.length : Int) > 1) then _ else []) ++ _ else (if ((e0.length : Int) > 1) then _ else [])) = _
    rw [if_neg (show ¬ ((e0.length : Int) > 1) by decide)]
    by_cases e : 0 < cAt cs (t + n)
    · rw [if_pos e, if_pos e]; rfl
    · rw [if_neg e, if_neg e]; rfl
theorem read_all {cs : List Int} (h : ∀ c ∈ cs, 0 ≤ c) (hl : cs.length = 8) (t : Nat) (r : Nat → Str) (hr : ∀ n, n < 8 → Txt.count (r n) (Str.ofString "x") = cAt cs (t + n)) :
    ∀ n, n ≤ 8 → readF ((List.range n).map fun i : Nat => (r i, sg (nameC ((t : Int) + (i : Int))))) = ((List.range n).map (pT cs t), roomT cs t n) := by
  intro n
  induction n with
  | zero => intro _; rfl
  | succ n ih =>
    intro hn
    have e : readF ((List.range (n + 1)).map fun i : Nat => (r i, sg (nameC ((t : Int) + (i : Int))))) = rstep (r n, sg (nameC ((t : Int) + (n : Int)))) (readF ((List.range n).map fun i : Nat => (r i, sg (nameC ((t : Int) + (i : Int)))))) := by
      unfold readF
      rw [List.range_succ, List.map_append]
      exact rfold_app _ _ _
    rw [e, ih (by lia), read_next h hl t n (r n) (hr n (by lia))]

/-! what holds at a good turn -/
theorem dir_root {cs : List Int} {t i : Nat} (h : aT cs t i = -1) : dirnameF (pT cs t i) = Str.ofString "/" := by
  have hl := ltr_let cs t i
  unfold pT
  rw [ltr_root h] at hl ⊢
  have := dir_path (l := []) (c := nameC ((t : Int) + (i : Int))) hl
  rw [if_pos rfl] at this
  exact this
theorem dir_in {cs : List Int} {t i p : Nat} (h : aT cs t i = (p : Int)) : dirnameF (pT cs t i) = pT cs t p := by
  have hl := ltr_let cs t i
  unfold pT
  rw [ltr_in h] at hl ⊢
  rw [dir_path hl, if_neg (ltr_ne cs t p)]
theorem pT_slash (cs : List Int) (t i : Nat) : pT cs t i ≠ Str.ofString "/" := by
  intro e
  have := congrArg Str.length e
  unfold pT at this
  rw [pathT_len] at this
  have h1 : (Str.ofString "/").length = 1 := rfl
  lia
theorem pT_inj {cs : List Int} {t i j : Nat} (hi : i < 8) (hj : j < 8) (h : pT cs t i = pT cs t j) : i = j := ltr_inj hi hj (pathT_inj h)
theorem kids {cs : List Int} (h : ∀ c ∈ cs, 0 ≤ c) (hl : cs.length = 8) (t j : Nat) : ∀ m : Nat, (((List.range (j + 1 + m)).filter fun i => decide (aT cs t i = (j : Int))).length : Int) = cAt cs (t + j) - lfT cs t (j + 1 + m) j
  | 0 => by
    have W := walked h hl t
    have e : (List.range (j + 1 + 0)).filter (fun i => decide (aT cs t i = (j : Int))) = [] := by
      rw [List.filter_eq_nil_iff]
      intro i hi hd
      have hi' := List.mem_range.mp hi
      have hd' := of_decide_eq_true hd
      rcases W.top i with h1 | ⟨p, h1, h2, _⟩ <;> lia
    rw [e, Nat.add_zero, W.born j]
    show (0 : Int) = _
    lia
  | m + 1 => by
    have W := walked h hl t
    have e : j + 1 + (m + 1) = (j + 1 + m) + 1 := by lia
    rw [e, List.range_succ, List.filter_append, List.length_append, W.step (j + 1 + m) j (by lia)]
    have ih := kids h hl t j m
    rw [List.filter_cons]
    by_cases hd : aT cs t (j + 1 + m) = (j : Int)
    · rw [if_pos (decide_eq_true hd), if_pos hd]
      push_cast
      rw [ih]; show _ + (1 : Int) = _; lia
    · rw [if_neg (by simpa using hd), if_neg hd]
      push_cast
      rw [ih]; show _ + (0 : Int) = _; lia
theorem rt1 {a b : Int} : a + 1 - (b + 1) + ((1 : Nat) : Int) = a + 1 - b := by lia
theorem roots {cs : List Int} (h : ∀ c ∈ cs, 0 ≤ c) (hl : cs.length = 8) (t : Nat) : ∀ n : Nat, (((List.range n).filter fun i => decide (aT cs t i = -1)).length : Int) = Hc cs t + 1 - Mn (Hc cs) (t + n) t
  | 0 => by rw [Mn_ge (i := t + 0) (j := t) (Nat.le_refl _)]; exact (Int.sub_self _).symm
  | n + 1 => by
    have ih := roots h hl t n
    have hs := Mn_step (Hc_down h hl (t + n)) _ t rfl (Nat.le_add_right t n)
    rw [show t + (n + 1) = t + n + 1 from rfl, hs, List.range_succ, List.filter_append, List.length_append, List.filter_cons]
    rcases aT_spec cs t n with ⟨p, h1, h2, h3, _⟩ | ⟨h1, h2⟩
    · have hm := Mn_le (H := Hc cs) (i := t + n) _ t (t + p) rfl (Nat.le_add_right t p) (Nat.add_lt_add_left h2 t)
      rw [if_neg (by rw [h1]; simp), Int.natCast_add, ih, Int.min_eq_right (Int.le_trans hm h3)]
      exact Int.add_zero _
    · have hm := Mn_T (cs := cs) (t := t) (i := n) (j := 0) fun k g1 g2 => h2 k g2
      rw [Nat.add_zero] at hm
      rw [if_pos (decide_eq_true h1), Int.natCast_add, ih, hm, min_up]
      exact rt1
theorem count_map {f : Nat → Str} {x : Str} {n : Nat} {P : Nat → Bool} (h : ∀ i, i < n → (f i == x) = P i) : ((List.range n).map f).count x = ((List.range n).filter P).length := by
  unfold List.count
  rw [List.countP_map, List.countP_eq_length_filter]
  congr 1
  exact List.filter_congr fun i hi => h i (List.mem_range.mp hi)
theorem below8 {P : Nat → Prop} (h0 : P 0) (h1 : P 1) (h2 : P 2) (h3 : P 3) (h4 : P 4) (h5 : P 5) (h6 : P 6) (h7 : P 7) : ∀ t, t < 8 → P t
  | 0, _ => h0
  | 1, _ => h1
  | 2, _ => h2
  | 3, _ => h3
  | 4, _ => h4
  | 5, _ => h5
  | 6, _ => h6
  | 7, _ => h7
  | n + 8, h => absurd h (Nat.not_lt.mpr (Nat.le_add_left 8 n))
theorem turn_cs {cs : List Int} (hl : cs.length = 8) {t : Nat} (ht : t < 8) : cs.drop t ++ cs.take t = (List.range 8).map fun j => cAt cs (t + j) := by
  refine below8 (P := fun t => ∀ cs : List Int, cs.length = 8 → cs.drop t ++ cs.take t = (List.range 8).map fun j => cAt cs (t + j)) ?_ ?_ ?_ ?_ ?_ ?_ ?_ ?_ t ht cs hl <;> exact list8 fun _ _ _ _ _ _ _ _ => rfl
theorem chain {cs : List Int} (h : ∀ c ∈ cs, 0 ≤ c) (hl : cs.length = 8) (t : Nat) : ∀ n : Nat, (∀ j j', j ≤ j' → j' < n → 0 < lfT cs t n j → 0 < lfT cs t n j' → ltr cs t j <+: ltr cs t j')
    ∧ ∀ j, j ≤ n → 0 < lfT cs t (n + 1) j → ltr cs t j <+: ltr cs t n
  | n => by
    have W := walked h hl t
    have near : (∀ j j', j ≤ j' → j' < n → 0 < lfT cs t n j → 0 < lfT cs t n j' → ltr cs t j <+: ltr cs t j') → ∀ j, j ≤ n → 0 < lfT cs t (n + 1) j → ltr cs t j <+: ltr cs t n := by
      intro hch j hj hpos
      by_cases e : j = n
      · subst e; exact List.prefix_refl _
      · have hs := W.step n j (by lia)
        have hp0 : 0 < lfT cs t n j := by
          by_cases ha : aT cs t n = (j : Int)
          · rw [if_pos ha] at hs; lia
          · rw [if_neg ha] at hs; lia
        have hle := W.last n j (by lia) hp0
        rcases W.top n with h1 | ⟨p, h1, h2, h3⟩
        · lia
        · have := hch j p (by lia) h2 hp0 h3
          rw [ltr_in h1]
          exact this.trans (List.prefix_append _ _)
    have first : ∀ j j', j ≤ j' → j' < n → 0 < lfT cs t n j → 0 < lfT cs t n j' → ltr cs t j <+: ltr cs t j' := by
      cases n with
      | zero => intro j j' _ h2; lia
      | succ m =>
        obtain ⟨c1, c2⟩ := chain h hl t m
        intro j j' h1 h2 p1 p2
        by_cases e : j' = m
        · subst e; exact c2 j h1 p1
        · have k1 := W.step m j (by lia)
          have k2 := W.step m j' (by lia)
          refine c1 j j' h1 (by lia) ?_ ?_
          · split at k1 <;> lia
          · split at k2 <;> lia
    exact ⟨first, near first⟩
theorem near_ok {cs : List Int} (h : ∀ c ∈ cs, 0 ≤ c) (hl : cs.length = 8) (t k : Nat) (hk : k < 7) : commonF (pT cs t k) (pT cs t (k + 1)) = dirnameF (pT cs t (k + 1)) := by
  have W := walked h hl t
  have key : ∀ (b r : List Nat), ltr cs t k = b ++ r → ltr cs t (k + 1) = b ++ [nameC ((t : Int) + ((k + 1 : Nat) : Int))] → commonF (pT cs t k) (pT cs t (k + 1)) = if b = [] then Str.ofString "/" else pathT b := by
    intro b r e1 e2
    have l1 := ltr_let cs t k
    have l2 := ltr_let cs t (k + 1)
    unfold pT
    rw [e1] at l1 ⊢
    rw [e2] at l2 ⊢
    refine common_path l1 l2 fun hm => ?_
    obtain ⟨j, g1, g2⟩ := ltr_mem k k (Nat.le_refl _) _ (by rw [e1]; exact List.mem_append_right _ hm)
    have := name_inj g2
    lia
  rcases W.top (k + 1) with h1 | ⟨p, h1, h2, h3⟩
  · rw [key [] (ltr cs t k) rfl (ltr_root h1), if_pos rfl, dir_root h1]
  · obtain ⟨r, hr⟩ := (chain h hl t k).2 p (by lia) h3
    rw [key (ltr cs t p) r hr.symm (ltr_in h1), if_neg (ltr_ne cs t p), dir_in h1]
    rfl
theorem rt2 {a s : Int} : a + 1 - (a + (s - 8) + 1) = 8 - s := by lia
theorem holds_good {cs : List Int} (h : ∀ c ∈ cs, 0 ≤ c) (hl : cs.length = 8) {t : Nat} (ht : t < 8) (hg : GoodT cs t) : HoldsOk ((List.range 8).map (pT cs t)) (cs.drop t ++ cs.take t) := by
  have W := walked h hl t
  have hroot : ((((List.range 8).map (pT cs t)).map dirnameF).count (Str.ofString "/") : Int) = 8 - cs.sum := by
    rw [List.map_map, count_map (P := fun i => decide (aT cs t i = -1)) fun i hi => ?_]
    · rw [roots h hl t 8, show Mn (Hc cs) (t + 8) t = _ from Mn_T (j := 0) fun k g1 g2 => hg k g2, Hc_shift cs t, Hc_eight hl]
      exact rt2
    · show (dirnameF (pT cs t i) == _) = _
      rcases W.top i with h1 | ⟨p, h1, h2, _⟩
      · rw [dir_root h1, h1]; rfl
      · rw [dir_in h1, h1, beq_eq_false_iff_ne.mpr (pT_slash cs t p)]
        symm; exact decide_eq_false (by lia)
  refine ⟨by simp, fun p hp => ?_, ?_, ?_, fun k hk => ?_⟩
  · obtain ⟨i, hi, rfl⟩ := List.mem_map.mp hp
    have hi8 := List.mem_range.mp hi
    have := ltr_len (cs := cs) (t := t) i i (Nat.le_refl _)
    exact abs_path (ltr_let cs t i) (ltr_ne cs t i) (by lia)
  · rw [turn_cs hl ht, List.map_map]
    refine List.map_congr_left fun j hj => ?_
    have hj8 := List.mem_range.mp hj
    show (((((List.range 8).map (pT cs t)).map dirnameF).count (pT cs t j) : Nat) : Int) = _
    rw [List.map_map, count_map (P := fun i => decide (aT cs t i = (j : Int))) fun i hi => ?_]
    · have hk := kids h hl t j (8 - (j + 1))
      rw [show j + 1 + (8 - (j + 1)) = 8 from by lia, none_left hg hj8] at hk
      rw [hk]; lia
    · show (dirnameF (pT cs t i) == _) = _
      rcases W.top i with h1 | ⟨p, h1, h2, _⟩
      · rw [dir_root h1, h1, beq_eq_false_iff_ne.mpr (Ne.symm (pT_slash cs t j))]
        symm; exact decide_eq_false (by lia)
      · rw [dir_in h1, h1]
        by_cases e : p = j
        · subst e; simp
        · rw [beq_eq_false_iff_ne.mpr fun e2 => e (pT_inj (by lia) hj8 e2)]
          symm; exact decide_eq_false (by lia)
  · rw [hroot, List.sum_append, Int.add_comm, ← List.sum_append, List.take_append_drop]
  · rw [getD_map_range (by lia), getD_map_range (by lia), List.map_map, getD_map_range (by lia), near_ok h hl t k hk]; rfl
/-! the paths told by numbers about the ring -/
theorem Hc_q {cs : List Int} (n : Nat) : ∀ q : Nat, Hc cs (n + 8 * q) = Hc cs n + q * Hc cs 8
  | 0 => by show Hc cs n = _; simp
  | q + 1 => by
    have e : n + 8 * (q + 1) = (n + 8 * q) + 8 := by lia
    rw [e, Hc_shift, Hc_q n q]
    push_cast
    rw [Int.add_mul]; lia
theorem low_iff {a b c d e f : Int} (h1 : a + e = c + f) (h2 : b + e = d + f) : a ≤ b ↔ c ≤ d := by lia
theorem low_not {a b c d e f g : Int} (h1 : a + e = c) (h2 : b + e = d + f) (h3 : d ≤ g) (h4 : g + f < c) : ¬ a ≤ b := by lia
theorem ring_top {cs : List Int} {t i x q : Nat} (h : t + i = x + 8 * q) : Hc cs (x + 8) + q * Hc cs 8 = Hc cs (t + i) + Hc cs 8 := by
  rw [← Hc_q (x + 8) q, ← Hc_shift, h, Nat.add_right_comm]
theorem ring_lowA {cs : List Int} {t i x q : Nat} (h : t + i = x + 8 * q) {j s k : Nat} (hj : j + s = x + 8) (hk : k + s = i) : Hc cs j ≤ Hc cs (x + 8) ↔ Hc cs (t + k) ≤ Hc cs (t + i) := by
  refine low_iff (e := q * Hc cs 8) (f := Hc cs 8) ?_ (ring_top h)
  rw [← Hc_q j q, ← Hc_shift, show j + 8 * q = t + k + 8 by lia]
theorem ring_lowB {cs : List Int} {t i x q : Nat} (h : t + i = x + 8 * q) {j s k : Nat} (hj : j + s = x + 8) (hk : k + s = i + 8) (hle : Hc cs (t + i) ≤ Hc cs t) (hg : Hc cs (t + 8) < Hc cs (t + k)) : ¬ Hc cs j ≤ Hc cs (x + 8) := by
  refine low_not (e := q * Hc cs 8) (f := Hc cs 8) (c := Hc cs (t + k)) ?_ (ring_top h) hle (by rw [← Hc_shift]; exact hg)
  rw [← Hc_q j q, show j + 8 * q = t + k by lia]
theorem gone_by {a b : Nat} (h : a ≤ b) : ∃ s, a + s = b := ⟨b - a, Nat.add_sub_of_le h⟩
theorem ring_up {cs : List Int} {t i : Nat} (ht : t < 8) (hi : i < 8) (hg : GoodT cs t) :
    (∃ p : Nat, aT cs t i = p ∧ p < i ∧ above cs ((((t + i) % 8 : Nat) : Int) + 8) ((((t + i) % 8 : Nat) : Int) + 1) % 8 = (((t + p) % 8 : Nat) : Int) ∧ above cs ((((t + i) % 8 : Nat) : Int) + 8) ((((t + i) % 8 : Nat) : Int) + 1) ≠ (((t + i) % 8 : Nat) : Int)) ∨
    (aT cs t i = -1 ∧ above cs ((((t + i) % 8 : Nat) : Int) + 8) ((((t + i) % 8 : Nat) : Int) + 1) = (((t + i) % 8 : Nat) : Int)) := by
  obtain ⟨q, hq⟩ : ∃ q, t + i = (t + i) % 8 + 8 * q := ⟨(t + i) / 8, (Nat.mod_add_div _ _).symm⟩
  generalize (t + i) % 8 = x at *
  have sp := above_spec cs (x + 1) (x + 8) (Nat.add_le_add_left (by decide) x)
  have e1 : ((x + 8 : Nat) : Int) = (x : Int) + 8 := rfl
  have e2 : ((x + 1 : Nat) : Int) = (x : Int) + 1 := rfl
  rw [e1, e2] at sp
  rcases aT_spec cs t i with ⟨p, h1, h2, h3, h4⟩ | ⟨h1, h2⟩
  · refine .inl ⟨p, h1, h2, ?_⟩
    obtain ⟨s0, es⟩ := gone_by (Nat.le_of_lt h2)
    have hs0 : s0 ≤ x + 8 := Nat.le_trans (Nat.le_trans (Nat.le_add_left s0 p) (Nat.le_of_eq es)) (Nat.le_trans (Nat.le_of_lt hi) (Nat.le_add_left 8 x))
    have hs1 : 0 < s0 := by
      rcases Nat.eq_zero_or_pos s0 with rfl | h
      · exact absurd h2 (Nat.not_lt.mpr (Nat.le_of_eq es.symm))
      · exact h
    have ej : x + 8 - s0 + s0 = x + 8 := Nat.sub_add_cancel hs0
    have low0 := (ring_lowA (cs := cs) hq ej es).mpr h3
    have hj8 : x + 8 - s0 < x + 8 := Nat.sub_lt (Nat.succ_pos _) hs1
    have hjx : x + 1 ≤ x + 8 - s0 := by lia
    rcases sp with ⟨j, g1, g2, g3, g4, g5⟩ | ⟨g1, g2⟩
    · obtain rfl : j = x + 8 - s0 := by
        rcases Nat.lt_trichotomy j (x + 8 - s0) with hlt | heq | hgt
        · exact absurd low0 (Int.not_le.mpr (g5 _ hlt hj8))
        · exact heq
        · obtain ⟨s1, f1⟩ := gone_by (Nat.le_of_lt g3)
          have hlt : s1 < s0 := by clear g1 g4 g5 low0 h1 h3 h4; lia
          obtain ⟨k, f2⟩ := gone_by (Nat.le_of_lt (Nat.lt_of_lt_of_le hlt (Nat.le_trans (Nat.le_add_left s0 p) (Nat.le_of_eq es))))
          rw [Nat.add_comm] at f2
          refine absurd ((ring_lowA hq f1 f2).mp g4) (Int.not_le.mpr (h4 k ?_ ?_))
          · clear g1 g4 g5 low0 h1 h3 h4; lia
          · clear g1 g4 g5 low0 h1 h3 h4; lia
      rw [g1]
      refine ⟨?_, fun e => absurd (Int.ofNat.inj e) (Nat.ne_of_gt g2)⟩
      have e3 : x + 8 - s0 + 8 * q = t + p + 8 := by clear g1 g4 g5 low0 h1 h3 h4; lia
      show (((x + 8 - s0) % 8 : Nat) : Int) = _
      rw [← Nat.add_mul_mod_self_left (x + 8 - s0) 8 q, e3, Nat.add_mod_right]
    · exact absurd low0 (Int.not_le.mpr (g2 _ hjx hj8))
  · refine .inr ⟨h1, ?_⟩
    rcases sp with ⟨j, g1, g2, g3, g4, g5⟩ | ⟨g1, g2⟩
    · exfalso
      obtain ⟨s1, f1⟩ := gone_by (Nat.le_of_lt g3)
      by_cases hs : s1 ≤ i
      · obtain ⟨k, f2⟩ := gone_by hs
        rw [Nat.add_comm] at f2
        refine absurd ((ring_lowA hq f1 f2).mp g4) (Int.not_le.mpr (h2 k ?_))
        clear g1 g4 g5 h1 h2; lia
      · obtain ⟨k, f2⟩ := gone_by (show s1 ≤ i + 8 by clear g1 g4 g5 h1 h2; lia)
        rw [Nat.add_comm] at f2
        have hle : Hc cs (t + i) ≤ Hc cs t := by
          cases i with
          | zero => exact Int.le_refl _
          | succ i => exact Int.le_of_lt (h2 0 (Nat.succ_pos i))
        exact ring_lowB hq f1 f2 hle (hg k (by clear g1 g4 g5 h1 h2; lia)) g4
    · rw [g1]; exact Int.add_sub_cancel ..
theorem forest_path {cs : List Int} {t : Nat} (ht : t < 8) (hg : GoodT cs t) : ∀ (m i : Nat), i ≤ m → i < 8 → ∀ (n : Nat), i < n → ∀ tail : Str, forestL cs n (((t + i) % 8 : Nat) : Int) tail = pT cs t i ++ tail
  | m, i, hm, hi, 0, hn, tail => by lia
  | m, i, hm, hi, n + 1, hn, tail => by
    have hc : nameC (((t + i) % 8 : Nat) : Int) = nameC ((t : Int) + (i : Int)) := by rw [name_mod]; congr 1
    unfold forestL
    rw [hc]
    rcases ring_up ht hi hg with ⟨p, h1, h2, h3, h4⟩ | ⟨h1, h2⟩
    · dsimp only
      rw [if_neg h4, h3]
      cases m with
      | zero => lia
      | succ m =>
        rw [forest_path ht hg m p (by lia) (by lia) n (by lia)]
        unfold pT
        rw [ltr_in h1, ← path_snoc]
        refine s_ext ?_
        simp only [s_app, List.append_assoc]
    · dsimp only
      rw [if_pos h2]
      unfold pT
      rw [ltr_root h1, ← root_snoc]
      refine s_ext ?_
      simp only [s_app, List.append_assoc]
      rfl
theorem turn_perm : ∀ t, t < 8 → ((List.range 8).map fun i => (t + i) % 8).Perm (List.range 8) := by decide
theorem forest_perm {cs : List Int} {t : Nat} (ht : t < 8) (hg : GoodT cs t) : ((List.range 8).map (pT cs t)).Perm (forests cs) := by
  have e : (List.range 8).map (pT cs t) = ((List.range 8).map fun i => (t + i) % 8).map (forestF cs) := by
    rw [List.map_map]
    refine List.map_congr_left fun i hi => ?_
    have hi8 := List.mem_range.mp hi
    show pT cs t i = forestL cs 8 (((t + i) % 8 : Nat) : Int) (Str.ofString "")
    rw [forest_path ht hg i i (Nat.le_refl _) hi8 8 hi8]
    refine s_ext ?_
    rw [s_app]
    exact (List.append_nil _).symm
  rw [e]
  exact (turn_perm t ht).map _

/-! the plain law -/
theorem getD_nat {ms : List Int} (hms : ms.length = 8) (hr : ∀ m ∈ ms, 0 ≤ m ∧ m < 4294967296) {k : Nat} (hk : k < 8) : ∃ n : Nat, ms.getD k 0 = (n : Int) := by
  have := hr _ (getD_mem (l := ms) (i := k) (d := 0) (by omega))
  exact ⟨(ms.getD k 0).toNat, by omega⟩
theorem rot_ring (ms : List Int) {t : Nat} (ht : t < 8) : rot t (ringF ms) = (List.range 8).map fun i : Nat => (fmRow (ms.getD ((t + i) % 8) 0), sg (nameC ((t : Int) + (i : Int)))) := by
  have e : rot t (ringF ms) = (List.range 8).map fun i : Nat => ringR ms ((t + i) % 8) := by
    exact below8 (P := fun t => rot t (ringF ms) = (List.range 8).map fun i : Nat => ringR ms ((t + i) % 8)) rfl rfl rfl rfl rfl rfl rfl rfl t ht
  rw [e]
  refine List.map_congr_left fun i _ => ?_
  unfold ringR
  rw [name_mod]
  rfl
theorem flat_strs {l : List Str} (h : ∀ x ∈ l, PyData.strOk x = true) : PV.flats 3 (pss l) = true := by
  unfold pss
  exact flats_map fun x hx => h x hx
theorem flat_read {a : List Str} {b : List (Str × Str)} (ha : ∀ x ∈ a, PyData.strOk x = true) (hb : ∀ p ∈ b, (∀ c ∈ p.1.cps.toList, c < 128) ∧ ∀ c ∈ p.2.cps.toList, c < 128) : PV.flat 5 (reading a b) = true := by
  have h1 : PV.flat 4 (.lst (pss a)) = true := flat_strs ha
  have h2 : PV.flat 4 (.lst (pairs b)) = true := by
    show PV.flats 3 (pairs b) = true
    unfold pairs
    refine flats_map fun p hp => ?_
    show PV.flats 2 [.str p.1, .str p.2] = true
    simp only [PV.flats, PV.flat, ok_of (hb p hp).1, ok_of (hb p hp).2]; rfl
  have h3 : PV.flat 4 (.str (wholeOf b)) = true := by
    show PyData.strOk _ = true
    refine ok_of ?_
    unfold wholeOf
    refine join_low fun s hs c hc => ?_
    obtain ⟨p, hp, rfl⟩ := List.mem_map.mp hs
    rw [s_app] at hc
    rcases List.mem_append.mp hc with hm | hm
    · exact (hb p hp).1 c hm
    · exact (hb p hp).2 c hm
  show PV.flats 4 [_, _, _, _, _] = true
  simp only [PV.flats, h1, h2, h3]
  rfl
theorem plain_ok {ms : List Int} (hms : ms.length = 8) (hr : ∀ m ∈ ms, 0 ≤ m ∧ m < 4294967296) : PlainOk ms := by
  have hcl : (ms.map countF).length = 8 := by rw [List.length_map]; exact hms
  have hcs : ∀ c ∈ ms.map countF, 0 ≤ c := fun c hc => by
    obtain ⟨m, _, rfl⟩ := List.mem_map.mp hc
    exact (countF_range m).1
  have hnat : ∀ m ∈ ms, ∃ n : Nat, m = (n : Int) := fun m hm => ⟨m.toNat, by have := hr m hm; omega⟩
  have hcat : ∀ k, cAt (ms.map countF) k = countF (ms.getD (k % 8) 0) := fun k => by
    unfold cAt
    have hk : k % 8 < ms.length := by omega
    rw [List.getD_eq_getElem?_getD, List.getD_eq_getElem?_getD, List.getElem?_map, List.getElem?_eq_getElem hk]; rfl
  have hpaths : ∀ t : Nat, (wantS (ms.map countF) (t : Int) 8).1 = (List.range 8).map (pT (ms.map countF) t) := fun t => by rw [want_eq hcs hcl t 8]
  have hok : ∀ t i : Nat, ∀ c ∈ (pT (ms.map countF) t i).cps.toList, c < 128 := fun t i => path_low (ltr_let _ t i)
  refine ⟨fun m hm => ?_, fun m _ => countF_range m, fun t ht => ?_, ?_, fun k hk => ?_, fun t ht hn ys zs hys hsy hzs hsz => ?_, fun t ht => ?_, fun t ht x hx => ?_, fun k hk => ?_, fun t ht hn => ?_⟩
  · obtain ⟨n, rfl⟩ := hnat m hm
    unfold CountOk
    rw [count_fm]
    exact countF_range _
  · unfold toldF
    rw [rot_ring ms ht, read_all hcs hcl t (fun i => fmRow (ms.getD ((t + i) % 8) 0)) (fun n hn => ?_) 8 (Nat.le_refl _), hpaths t, want_rest hcs hcl t]
    · rfl
    · obtain ⟨k, hk⟩ := getD_nat hms hr (k := (t + n) % 8) (by omega)
      rw [hcat]
      rw [hk, count_fm]
  · have e : (List.range 8).filter (fun (t : Nat) => (wantRest (ms.map countF) t).isEmpty) = (List.range 8).filter (goodB (ms.map countF)) := List.filter_congr fun t _ => rest_good hcs hcl t
    rw [e]
    exact good_count hcs hcl
  · obtain ⟨n, hn⟩ := getD_nat hms hr hk
    unfold ringR
    rw [hn, row_eq]
  · have hg := (rest_nil hcs hcl t).mp hn
    rw [hpaths t] at hzs
    exact sorted_eq ((hzs.trans (forest_perm ht hg)).trans hys.symm) hsz hsy
  · rw [hpaths t, want_rest hcs hcl t]
    refine flat_read (fun x hx => ?_) fun p hp => ?_
    · obtain ⟨i, _, rfl⟩ := List.mem_map.mp hx
      exact ok_of (hok t i)
    · unfold roomT roomP at hp
      obtain ⟨j, _, rfl⟩ := List.mem_map.mp hp
      exact ⟨hok t j, oS_low _⟩
  · rw [hpaths t] at hx
    obtain ⟨i, _, rfl⟩ := List.mem_map.mp hx
    exact ok_of (hok t i)
  · obtain ⟨n, hn⟩ := getD_nat hms hr hk
    rw [hn]; exact row_low n
  · rw [hpaths t]
    exact holds_good hcs hcl ht ((rest_nil hcs hcl t).mp hn)

theorem law02 : PySem.Challenge.rw_il0074_02.Holds := law_at fun ms h1 h2 => plain_ok h1 h2


end Mine
end
open PySem PySem.W PyProof.Rows
theorem PySem.Challenge.cw_il0074_02_holds : PySem.Challenge.rw_il0074_02.Holds :=
  Mine.law02
