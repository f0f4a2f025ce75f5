import PyProof.Rows.All
import Wide.All
import OpenK.AllK
import Wide.FinOn
import KE.KRevSl
import PySem.Challenge.RW_wj0020_01
open PySem PySem.W PyProof.Rows
set_option Elab.async false
set_option maxRecDepth 100000
namespace Cut20

/-! Data without a heap; how a heap bears them; what a frame's names hold. -/

theorem no_some {α : Type} {x : α} {P : Prop} (h : (none : Option α) = some x) : P := by cases h
theorem no_tt {P : Prop} (h : false = true) : P := by cases h

inductive PV where
  | none
  | bool (b : Bool)
  | int (i : Int)
  | str (x : Str)
  | tup (ds : List PV)
  | list (ds : List PV)
  | cur (ds : List PV)
  | rng (a b c : Int)
  | dict (es : List (Int × PV))

noncomputable def sml (i : Int) : Prop := -1152921504606846976 ≤ i ∧ i ≤ 1152921504606846976
abbrev Zone := Addr → Option Obj
noncomputable def Zone.nil : Zone := fun _ => Option.none
noncomputable def Zone.le (g g' : Zone) : Prop := ∀ a o, g a = some o → g' a = some o
noncomputable def Zone.In (g : Zone) (h : Heap) : Prop := ∀ a o, g a = some o → h.get? a = some o
theorem Zone.le.refl (g : Zone) : g.le g := fun _ _ e => e
theorem Zone.le.trans {g g' g'' : Zone} (x : g.le g') (y : g'.le g'') : g.le g'' := fun a o e => y a o (x a o e)

abbrev Ext (h h' : Heap) : Prop := ∀ b o, h.get? b = some o → h'.get? b = some o
theorem Ext.trans {h h' h'' : Heap} (x : Ext h h') (y : Ext h' h'') : Ext h h'' := fun b o e => y b o (x b o e)
theorem Zone.In.ext {g : Zone} {h h' : Heap} (x : g.In h) (k : Ext h h') : g.In h' := fun a o e => k a o (x a o e)

mutual
inductive Rep (prog : Program) (w : World) (g : Zone) : Value → PV → Prop
  | none : Rep prog w g Value.none PV.none
  | bool (b : Bool) : Rep prog w g (Value.bool b) (PV.bool b)
  | int (i : Int) (t : Tok) : Rep prog w g (Value.int i t) (PV.int i)
  | str (x : Str) (t : Tok) : Rep prog w g (Value.str x t) (PV.str x)
  | tup {a : Addr} {vs : List Value} {n : Nat} {ds : List PV} : g a = some ({ cls := .type "tuple", data := .seq vs.toArray n } : Obj) → RepAll prog w g vs ds → Rep prog w g (.ref a) (.tup ds)
  | list {a : Addr} {vs : List Value} {n : Nat} {ds : List PV} : g a = some ({ cls := .type "list", data := .seq vs.toArray n } : Obj) → RepAll prog w g vs ds → Rep prog w g (.ref a) (.list ds)
  | rng {a : Addr} {x y z : Int} {t u v : Tok} : sml x → sml y → g a = some ({ cls := .type "range", data := .fields #[.int x t, .int y u, .int z v] } : Obj) → Rep prog w g (.ref a) (.rng x y z)
  | dict {a : Addr} {o : Obj} {kvs : List (Int × Value)} {ds : List PV} : (a == sysModules) = false → g a = some o → (∀ h : Heap, h.get? a = some o → h.DictOf (intKind prog w) a kvs) →
      RepAll prog w g (kvs.map (·.2)) ds → Rep prog w g (.ref a) (.dict ((kvs.map (·.1)).zip ds))
inductive RepAll (prog : Program) (w : World) (g : Zone) : List Value → List PV → Prop
  | nil : RepAll prog w g [] []
  | cons {v : Value} {vs : List Value} {d : PV} {ds : List PV} : Rep prog w g v d → RepAll prog w g vs ds → RepAll prog w g (v :: vs) (d :: ds)
end

/-- as Rep, and a list that may still turn, held by a name alone -/
inductive RepM (prog : Program) (w : World) (g μ : Zone) : Value → PV → Prop
  | fr {v : Value} {d : PV} : Rep prog w g v d → RepM prog w g μ v d
  | cur {a : Addr} {vs : List Value} {n : Nat} {ds : List PV} : μ a = some ({ cls := .type "list", data := .seq vs.toArray n } : Obj) → RepAll prog w g vs ds → RepM prog w g μ (.ref a) (.cur ds)

section
variable {prog : Program} {w : World} {g g' μ μ' : Zone}
mutual
theorem Rep.up (hg : g.le g') : ∀ {v : Value} {d : PV}, Rep prog w g v d → Rep prog w g' v d
  | _, _, .none => .none
  | _, _, .bool b => .bool b
  | _, _, .int i t => .int i t
  | _, _, .str x t => .str x t
  | _, _, .tup h r => .tup (hg _ _ h) (RepAll.up hg r)
  | _, _, .list h r => .list (hg _ _ h) (RepAll.up hg r)
  | _, _, .rng p q h => .rng p q (hg _ _ h)
  | _, _, .dict n h e r => .dict n (hg _ _ h) e (RepAll.up hg r)
theorem RepAll.up (hg : g.le g') : ∀ {vs : List Value} {ds : List PV}, RepAll prog w g vs ds → RepAll prog w g' vs ds
  | _, _, .nil => .nil
  | _, _, .cons h r => .cons (Rep.up hg h) (RepAll.up hg r)
end
theorem RepM.up (hg : g.le g') (hm : μ.le μ') {v : Value} {d : PV} (h : RepM prog w g μ v d) : RepM prog w g' μ' v d := by
  cases h with
  | fr h => exact .fr (h.up hg)
  | cur a e => exact .cur (hm _ _ a) (e.up hg)
theorem RepAll.length {vs : List Value} {ds : List PV} (h : RepAll prog w g vs ds) : vs.length = ds.length := by
  induction vs generalizing ds with
  | nil => cases h; rfl
  | cons v vs ih => cases h with | cons _ r => rw [List.length_cons, List.length_cons, ih r]
theorem RepAll.get {vs : List Value} {ds : List PV} (h : RepAll prog w g vs ds) {k : Nat} {d : PV} (hk : ds[k]? = some d) : ∃ v, vs[k]? = some v ∧ Rep prog w g v d := by
  induction vs generalizing ds k with
  | nil => cases h; simp at hk
  | cons v vs ih =>
    cases h with
    | cons h r =>
      cases k with
      | zero => simp at hk; subst hk; exact ⟨v, rfl, h⟩
      | succ k => exact ih r (by simpa using hk)
theorem RepAll.append {vs ws : List Value} {ds es : List PV} (h : RepAll prog w g vs ds) (k : RepAll prog w g ws es) : RepAll prog w g (vs ++ ws) (ds ++ es) := by
  induction vs generalizing ds with
  | nil => cases h; exact k
  | cons v vs ih => cases h with | cons h r => exact .cons h (ih r)
theorem RepAll.one {v : Value} {d : PV} (h : Rep prog w g v d) : RepAll prog w g [v] [d] := .cons h .nil
theorem RepAll.reverse {vs : List Value} {ds : List PV} (h : RepAll prog w g vs ds) : RepAll prog w g vs.reverse ds.reverse := by
  induction vs generalizing ds with
  | nil => cases h; exact .nil
  | cons v vs ih => cases h with | cons h r => rw [List.reverse_cons, List.reverse_cons]; exact (ih r).append (.one h)
theorem RepAll.take {vs : List Value} {ds : List PV} (h : RepAll prog w g vs ds) : ∀ n, RepAll prog w g (vs.take n) (ds.take n) := by
  induction vs generalizing ds with
  | nil => cases h; intro n; simp; exact .nil
  | cons v vs ih =>
    cases h with
    | cons h r =>
      intro n
      cases n with
      | zero => exact .nil
      | succ n => exact .cons h (ih r n)
theorem RepAll.set {vs : List Value} {ds : List PV} (h : RepAll prog w g vs ds) {v : Value} {d : PV} (hd : Rep prog w g v d) : ∀ n, RepAll prog w g (vs.set n v) (ds.set n d) := by
  induction vs generalizing ds with
  | nil => cases h; intro n; exact .nil
  | cons v vs ih =>
    cases h with
    | cons h r =>
      intro n
      cases n with
      | zero => exact .cons hd r
      | succ n => exact .cons h (ih r n)
end
end Cut20
namespace Cut20

/-! The law's own small language: expressions, statements, what they give, and how a text becomes one. -/

noncomputable def vnames : List Str := (["script", "drawn", "k", "row", "sign", "x", "part", "blocks", "turn", "parts", "a", "b", "pair", "likes", "root", "order", "sure", "taken", "fronts", "ends", "mine", "fit",
  "lines", "cut", "j", "worth", "gains", "less", "n", "heard", "cuts", "one", "linestarts", "maxlineno", "lineno_width", "resp", "dirname", "i", "c"] : List String).map Str.ofString
noncomputable def vid (x : Str) : Option Nat := vnames.findIdx? (· == x)
noncomputable def fnames : List Str := (["law", "_law_drawn", "_law_row", "_law_spells", "_law_likes", "_law_cut", "_law_upset", "_get_lineno_width", "parse257"] : List String).map Str.ofString
noncomputable def fid (x : Str) : Option Nat := fnames.findIdx? (· == x)

inductive BinO where
  | add | sub | mul | fdiv | mod | pow
inductive CmpO where
  | lt | le | gt | ge | eq | ne | isin | notin | isnone
inductive Tgt where
  | one (x : Nat)
  | two (x y : Nat)

inductive IE where
  | int (i : Int)
  | str (x : Str)
  | bool (b : Bool)
  | none
  | var (i : Nat)
  | bin (op : BinO) (a b : IE)
  | cmp (op : CmpO) (a b : IE)
  | chain (a b c : IE)
  | and (a b : IE)
  | or (a b : IE)
  | ite (c a b : IE)
  | len (a : IE)
  | range1 (a : IE)
  | range2 (a b : IE)
  | range3 (a b c : IE)
  | min1 (a : IE)
  | min2 (a b : IE)
  | max2 (a b : IE)
  | sorted (a : IE)
  | listOf (a : IE)
  | strOf (a : IE)
  | maxVals (a : IE)
  | noneIn (a : IE)
  | index (a b : IE)
  | join (a b : IE)
  | split (a b : IE)
  | idx (a b : IE)
  | slice (a lo hi : IE)
  | sliceTo (a hi : IE)
  | rev (a : IE)
  | tup2 (a b : IE)
  | list1 (a : IE)
  | nil
  | texts (xs : List Str)
  | inTab (a : IE)
  | tabAt (a : IE)
  | noLine
  | call1 (f : Nat) (a : IE)
  | call2 (f : Nat) (a b : IE)
  | call3 (f : Nat) (a b c : IE)
  | call4 (f : Nat) (a b c d : IE)
  | comp (elt : IE) (t : Tgt) (iter : IE) (hc : Bool) (cond : IE) (vis : List Nat)
  | comp2 (elt : IE) (t : Tgt) (iter : IE) (t2 : Tgt) (iter2 : IE) (hc : Bool) (cond : IE) (vis : List Nat)
  | dcomp (k v : IE) (t : Tgt) (iter : IE) (vis : List Nat)

inductive IS where
  | nop
  | seq (a b : IS)
  | asg (x : Nat) (e : IE)
  | new (x : Nat) (ds : List PV)
  | setI (x : Nat) (i e : IE)
  | augV (x : Nat) (e : IE)
  | augI (x : Nat) (i e : IE)
  | app (x : Nat) (e : IE)
  | ite (c : IE) (a b : IS)
  | loop (t : Tgt) (iter : IE) (body : IS)
  | whl (c : IE) (body : IS)
  | ret (e : IE)
  | brk
  | stuck

abbrev Sg := Nat → Option PV
noncomputable def upd (σ : Sg) (x : Nat) (d : PV) : Sg := fun y => if y = x then some d else σ y
noncomputable def restr (σ : Sg) (vis : List Nat) : Sg := fun y => if vis.contains y then σ y else none
noncomputable def bindT (t : Tgt) (d : PV) (σ : Sg) : Option Sg :=
  match t with
  | .one x => some (upd σ x d)
  | .two x y => match d with | .tup [p, q] => some (upd (upd σ x p) y q) | _ => none

noncomputable def PV.fz : PV → Prop
  | .cur _ => False
  | _ => True
noncomputable def PV.froze : PV → PV
  | .cur ds => .list ds
  | d => d
noncomputable def PV.seq : PV → Option (List PV)
  | .list ds => some ds
  | .cur ds => some ds
  | _ => Option.none
noncomputable def upTo (a : Int) : Nat → List PV
  | 0 => []
  | n + 1 => .int a :: upTo (a + 1) n
noncomputable def downTo (a : Int) : Nat → List PV
  | 0 => []
  | n + 1 => .int a :: downTo (a - 1) n
noncomputable def PV.items : PV → Option (List PV)
  | .list ds => some ds
  | .cur ds => some ds
  | .rng a b c => if c = 1 then some (upTo a (b - a).toNat) else if c = -1 then some (downTo a (a - b).toNat) else Option.none
  | _ => Option.none
/-- data whose == is plain: no bool among them, depth by n -/
noncomputable def eqOk : Nat → PV → Bool
  | _, .none => true
  | _, .int _ => true
  | _, .str x => PyData.strOk x
  | n + 1, .tup ds => ds.all (eqOk n)
  | n + 1, .list ds => ds.all (eqOk n)
  | n + 1, .cur ds => ds.all (eqOk n)
  | _, _ => false

abbrev Cb := PV → Prop
noncomputable def binW : BinO → PV → PV → Cb → Prop
  | .add, .int a, .int b, Q => Q (.int (a + b))
  | .add, .str a, .str b, Q => a.length + b.length ≤ 1000000 ∧ Q (.str (a ++ b))
  | .add, .list a, .list b, Q => a.length + b.length ≤ 1000000 ∧ Q (.list (a ++ b))
  | .sub, .int a, .int b, Q => Q (.int (a - b))
  | .mul, .int a, .int b, Q => sml a ∧ sml b ∧ Q (.int (a * b))
  | .fdiv, .int a, .int b, Q => b ≠ 0 ∧ b.natAbs < 1073741824 ∧ Q (.int (a.fdiv b))
  | .mod, .int a, .int b, Q => b ≠ 0 ∧ Q (.int (a.fmod b))
  | .pow, .int a, .int b, Q => a = 10 ∧ 0 ≤ b ∧ b ≤ 1000 ∧ Q (.int (10 ^ b.toNat))
  | _, _, _, _ => False
noncomputable def both (p : Prop) (Q : Cb) : Prop := (p → Q (.bool true)) ∧ (¬ p → Q (.bool false))
noncomputable def cmpW : CmpO → PV → PV → Cb → Prop
  | .lt, .int a, .int b, Q => both (a < b) Q
  | .le, .int a, .int b, Q => both (a ≤ b) Q
  | .gt, .int a, .int b, Q => both (b < a) Q
  | .ge, .int a, .int b, Q => both (b ≤ a) Q
  | .eq, .int a, .int b, Q => both (a = b) Q
  | .ne, .int a, .int b, Q => both (a ≠ b) Q
  | .eq, .str a, .str b, Q => both (a = b) Q
  | .ne, .str a, .str b, Q => both (a ≠ b) Q
  | .eq, .list a, .list b, Q => eqOk 8 (.list a) = true ∧ eqOk 8 (.list b) = true ∧ both (a = b) Q
  | .ne, .list a, .list b, Q => eqOk 8 (.list a) = true ∧ eqOk 8 (.list b) = true ∧ both (a ≠ b) Q
  | .isin, .str x, .str y, Q => Q (.bool (!(Builtin.Str.occurrences y x 0 y.length 1).isEmpty))
  | .isin, x, .list ds, Q => x.fz ∧ eqOk 8 x = true ∧ eqOk 8 (.list ds) = true ∧ both (x ∈ ds) Q
  | .isin, x, .cur ds, Q => x.fz ∧ eqOk 8 x = true ∧ eqOk 8 (.list ds) = true ∧ both (x ∈ ds) Q
  | .isin, x, .tup ds, Q => x.fz ∧ eqOk 8 x = true ∧ eqOk 8 (.list ds) = true ∧ both (x ∈ ds) Q
  | .notin, x, .list ds, Q => x.fz ∧ eqOk 8 x = true ∧ eqOk 8 (.list ds) = true ∧ both (¬ x ∈ ds) Q
  | .notin, x, .cur ds, Q => x.fz ∧ eqOk 8 x = true ∧ eqOk 8 (.list ds) = true ∧ both (¬ x ∈ ds) Q
  | .isnone, .dict _, .none, Q => Q (.bool false)
  | _, _, _, _ => False
noncomputable def truth (d : PV) (Q : Bool → Prop) : Prop := match d with | .bool b => Q b | _ => False
noncomputable def idxW : PV → PV → Cb → Prop
  | .list ds, .int k, Q => 0 ≤ k ∧ k < 1000000 ∧ ∃ d, ds[k.toNat]? = some d ∧ Q d
  | .cur ds, .int k, Q => 0 ≤ k ∧ k < 1000000 ∧ ∃ d, ds[k.toNat]? = some d ∧ Q d
  | .tup ds, .int k, Q => 0 ≤ k ∧ k < 1000000 ∧ ∃ d, ds[k.toNat]? = some d ∧ Q d
  | .str x, .int k, Q => 0 ≤ k ∧ k < 1000000 ∧ ∃ c, x.cps[k.toNat]? = some c ∧ Q (.str ⟨#[c]⟩)
  | _, _, _ => False
noncomputable def lenW : PV → Cb → Prop
  | .str x, Q => x.length ≤ 1000000 ∧ Q (.int x.length)
  | .list ds, Q => ds.length ≤ 1000000 ∧ Q (.int ds.length)
  | .cur ds, Q => ds.length ≤ 1000000 ∧ Q (.int ds.length)
  | _, _ => False
noncomputable def sliceW : PV → PV → PV → Cb → Prop
  | .str x, .int a, .int b, Q => x.length ≤ 1000000 ∧ Q (.str (Txt.slice x (some a) (some b)))
  | _, _, _, _ => False
noncomputable def sliceToW : PV → PV → Cb → Prop
  | .str x, .int b, Q => x.length ≤ 1000000 ∧ Q (.str (Txt.slice x none (some b)))
  | .list ds, .int b, Q => ds.length ≤ 1000000 ∧ 0 ≤ b ∧ Q (.list (ds.take b.toNat))
  | _, _, _ => False
noncomputable def intsOf : List PV → Option (List Int)
  | [] => some []
  | .int i :: r => (intsOf r).map (i :: ·)
  | _ => none
noncomputable def strsOf : List PV → Option (List Str)
  | [] => some []
  | .str x :: r => (strsOf r).map (x :: ·)
  | _ => none
/-- what sorts: pairs of ints, or an int and a text -/
noncomputable def pairOk : PV → Bool
  | .tup [.int _, .int _] => true
  | _ => false
noncomputable def pairTOk : PV → Bool
  | .tup [.int _, .str _] => true
  | _ => false
/-- the values of a dict of ints and Nones that count as true -/
noncomputable def some? : PV → Option Int
  | .int i => if i = 0 then none else some i
  | _ => none
noncomputable def valOk : PV → Bool
  | .int _ => true
  | .none => true
  | _ => false

noncomputable def min1W : PV → Cb → Prop
  | .list ds, Q => ∃ ns, intsOf ds = some ns ∧ ns ≠ [] ∧ ∀ m, m ∈ ns → (∀ a ∈ ns, m ≤ a) → Q (.int m)
  | _, _ => False
noncomputable def min2W : PV → PV → Cb → Prop
  | .int i, .int j, Q => Q (.int (if j < i then j else i))
  | _, _, _ => False
noncomputable def max2W : PV → PV → Cb → Prop
  | .int i, .int j, Q => Q (.int (if j > i then j else i))
  | _, _, _ => False
noncomputable def chainW (i j : Int) (z : PV) (Q : Cb) : Prop := match z with | .int l => both (j < l) Q | _ => False
noncomputable def range1W : PV → Cb → Prop
  | .int i, Q => sml i ∧ Q (.rng 0 i 1)
  | _, _ => False
noncomputable def range2W : PV → PV → Cb → Prop
  | .int i, .int j, Q => sml i ∧ sml j ∧ Q (.rng i j 1)
  | _, _, _ => False
noncomputable def range3W : PV → PV → PV → Cb → Prop
  | .int i, .int j, .int k, Q => sml i ∧ sml j ∧ k = -1 ∧ Q (.rng i j k)
  | _, _, _, _ => False
noncomputable def sortedW (x : PV) (Q : Cb) : Prop := match x.seq with
  | some ds => ds.length < 64 ∧ (ds.all pairOk = true ∨ ds.all pairTOk = true) ∧ ∀ es : List PV, es.Perm ds → Q (.list es)
  | Option.none => False
noncomputable def listOfW : PV → Cb → Prop
  | .rng i j k, Q => (match (PV.rng i j k).items with | some ds => ds.length < 1000 ∧ Q (.list ds) | Option.none => False)
  | _, _ => False
noncomputable def strOfW : PV → Cb → Prop
  | .int i, Q => 0 ≤ i ∧ i < 10 ^ 300 ∧ Q (.str (Str.ofString (toString i)))
  | _, _ => False
noncomputable def maxValsW : PV → Cb → Prop
  | .dict es, Q => es.length < 1000 ∧ (es.all fun p => valOk p.2) = true ∧ (match (es.map (·.2)).filterMap some? with
    | [] => Q (.int (-1))
    | n :: ns => ∀ m, m ∈ n :: ns → (∀ a ∈ n :: ns, a ≤ m) → Q (.int m))
  | _, _ => False
noncomputable def noneInW : PV → Cb → Prop
  | .dict es, Q => es.length < 1000 ∧ (es.all fun p => valOk p.2) = true ∧ both (PV.none ∈ es.map (·.2)) Q
  | _, _ => False
noncomputable def indexW : PV → PV → Cb → Prop
  | .list ds, .str z, Q => eqOk 8 (.list ds) = true ∧ PyData.strOk z = true ∧ ∃ n : Nat, ds[n]? = some (PV.str z) ∧ (∀ m : Nat, m < n → ds[m]? ≠ some (PV.str z)) ∧ n < 1000000 ∧ Q (.int n)
  | _, _, _ => False
noncomputable def joinW : PV → PV → Cb → Prop
  | .str s, .list ds, Q => (match strsOf ds with | some xs => (xs.map (·.length)).sum + xs.length * s.length ≤ 1000000 ∧ Q (.str (Txt.join s xs)) | Option.none => False)
  | _, _, _ => False
noncomputable def splitW : PV → PV → Cb → Prop
  | .str s, .str t, Q => (t.length == 0) = false ∧ s.length ≤ 1000000 ∧ Q (.list ((Txt.split s t).map .str))
  | _, _, _ => False
noncomputable def revW : PV → Cb → Prop
  | .list ds, Q => ds.length < 1000000 ∧ Q (.list ds.reverse)
  | _, _ => False
noncomputable def isL : PV → Prop
  | .list _ => True
  | _ => False
noncomputable def isS : PV → Prop
  | .str _ => True
  | _ => False
noncomputable def inTabW (tab : Str → Option Int) : PV → Cb → Prop
  | .str z, Q => Q (.bool (tab z).isSome)
  | _, _ => False
noncomputable def tabAtW (tab : Str → Option Int) : PV → Cb → Prop
  | .str z, Q => (match tab z with | some i => Q (.int i) | Option.none => False)
  | _, _ => False

variable (tab : Str → Option Int) (call : Nat → List PV → Cb → Prop)

noncomputable def W : IE → Sg → Cb → Prop
  | .int i, _, Q => Q (.int i)
  | .str x, _, Q => Q (.str x)
  | .bool b, _, Q => Q (.bool b)
  | .none, _, Q => Q .none
  | .var i, σ, Q => match σ i with | some d => Q d | Option.none => False
  | .bin op a b, σ, Q => W a σ fun x => W b σ fun y => binW op x y Q
  | .cmp op a b, σ, Q => W a σ fun x => W b σ fun y => cmpW op x y Q
  | .chain a b c, σ, Q => W a σ fun x => W b σ fun y => match x, y with
    | .int i, .int j => (i ≤ j → W c σ fun z => chainW i j z Q) ∧ (¬ i ≤ j → Q (.bool false))
    | _, _ => False
  | .and a b, σ, Q => W a σ fun x => truth x fun t => if t then W b σ Q else Q (.bool false)
  | .or a b, σ, Q => W a σ fun x => truth x fun t => if t then Q (.bool true) else W b σ Q
  | .ite c a b, σ, Q => W c σ fun x => truth x fun t => if t then W a σ Q else W b σ Q
  | .len a, σ, Q => W a σ fun x => lenW x Q
  | .range1 a, σ, Q => W a σ fun x => range1W x Q
  | .range2 a b, σ, Q => W a σ fun x => W b σ fun y => range2W x y Q
  | .range3 a b c, σ, Q => W a σ fun x => W b σ fun y => W c σ fun z => range3W x y z Q
  | .min1 a, σ, Q => W a σ fun x => min1W x Q
  | .min2 a b, σ, Q => W a σ fun x => W b σ fun y => min2W x y Q
  | .max2 a b, σ, Q => W a σ fun x => W b σ fun y => max2W x y Q
  | .sorted a, σ, Q => W a σ fun x => sortedW x Q
  | .listOf a, σ, Q => W a σ fun x => listOfW x Q
  | .strOf a, σ, Q => W a σ fun x => strOfW x Q
  | .maxVals a, σ, Q => W a σ fun x => maxValsW x Q
  | .noneIn a, σ, Q => W a σ fun x => noneInW x Q
  | .index a b, σ, Q => W a σ fun x => isL x ∧ W b σ fun y => indexW x y Q
  | .join a b, σ, Q => W a σ fun x => isS x ∧ W b σ fun y => joinW x y Q
  | .split a b, σ, Q => W a σ fun x => isS x ∧ W b σ fun y => splitW x y Q
  | .idx a b, σ, Q => W a σ fun x => W b σ fun y => idxW x y Q
  | .slice a lo hi, σ, Q => W a σ fun x => W lo σ fun y => W hi σ fun z => sliceW x y z Q
  | .sliceTo a hi, σ, Q => W a σ fun x => W hi σ fun z => sliceToW x z Q
  | .rev a, σ, Q => W a σ fun x => revW x Q
  | .tup2 a b, σ, Q => W a σ fun x => W b σ fun y => x.fz ∧ y.fz ∧ Q (.tup [x, y])
  | .list1 a, σ, Q => W a σ fun x => x.fz ∧ Q (.list [x])
  | .nil, _, Q => Q (.list [])
  | .texts xs, _, Q => xs.length < 1000 ∧ Q (.tup (xs.map .str))
  | .inTab a, σ, Q => W a σ fun x => inTabW tab x Q
  | .tabAt a, σ, Q => W a σ fun x => tabAtW tab x Q
  | .noLine, _, Q => Q (.str "  --")
  | .call1 f a, σ, Q => W a σ fun x => x.fz ∧ call f [x] Q
  | .call2 f a b, σ, Q => W a σ fun x => W b σ fun y => x.fz ∧ y.fz ∧ call f [x, y] Q
  | .call3 f a b c, σ, Q => W a σ fun x => W b σ fun y => W c σ fun z => x.fz ∧ y.fz ∧ z.fz ∧ call f [x, y, z] Q
  | .call4 f a b c d, σ, Q => W a σ fun x => W b σ fun y => W c σ fun z => W d σ fun u => x.fz ∧ y.fz ∧ z.fz ∧ u.fz ∧ call f [x, y, z, u] Q
  | .comp elt t iter hc cond vis, σ, Q => W iter σ fun x => match x.items with
    | some ds => ds.length < 1000000 ∧ ds.foldr (fun d K acc => match bindT t d (restr σ vis) with
        | some τ => if hc then W cond τ fun b => truth b fun ok => if ok then W elt τ fun e => e.fz ∧ K (acc ++ [e]) else K acc
            else W elt τ fun e => e.fz ∧ K (acc ++ [e])
        | Option.none => False) (fun acc => Q (.list acc)) []
    | Option.none => False
  | .comp2 elt t iter t2 iter2 hc cond vis, σ, Q => W iter σ fun x => match x.items with
    | some ds => ds.length < 1000 ∧ ds.foldr (fun d K acc => match bindT t d (restr σ vis) with
        | some τ => W iter2 τ fun x2 => match x2.items with
          | some ds2 => ds2.length < 1000 ∧ ds2.foldr (fun d2 K2 acc => match bindT t2 d2 τ with
              | some τ2 => if hc then W cond τ2 fun b => truth b fun ok => if ok then W elt τ2 fun e => e.fz ∧ K2 (acc ++ [e]) else K2 acc
                  else W elt τ2 fun e => e.fz ∧ K2 (acc ++ [e])
              | Option.none => False) K acc
          | Option.none => False
        | Option.none => False) (fun acc => Q (.list acc)) []
    | Option.none => False
  | .dcomp k v t iter vis, σ, Q => W iter σ fun x => match x.items with
    | some ds => ds.length < 1000000 ∧ ds.foldr (fun d K (acc : List (Int × PV)) => match bindT t d (restr σ vis) with
        | some τ => W k τ fun kd => W v τ fun vd => match kd with
          | .int i => vd.fz ∧ (∀ p ∈ acc, p.1 ≠ i) ∧ K (acc ++ [(i, vd)])
          | _ => False
        | Option.none => False) (fun acc => Q (.dict acc)) []
    | Option.none => False

noncomputable def WS : IS → Sg → (Sg → Prop) → (Sg → Prop) → Cb → Prop
  | .nop, σ, N, _, _ => N σ
  | .seq a b, σ, N, B, R => WS a σ (fun τ => WS b τ N B R) B R
  | .asg x e, σ, N, _, _ => W tab call e σ fun d => d.fz ∧ N (upd σ x d)
  | .new x ds, σ, N, _, _ => N (upd σ x (.cur ds))
  | .setI x i e, σ, N, _, _ => W tab call e σ fun d => match σ x with
    | some (.cur ds) => W tab call i σ fun k => match k with
      | .int j => d.fz ∧ 0 ≤ j ∧ j < ds.length ∧ ds.length < 1000 ∧ N (upd σ x (.cur (ds.set j.toNat d)))
      | _ => False
    | _ => False
  | .augV x e, σ, N, _, _ => match σ x with
    | some o => W tab call e σ fun d => binW .add o d fun r => r.fz ∧ (match r with | .list _ => False | _ => True) ∧ N (upd σ x r)
    | Option.none => False
  | .augI x i e, σ, N, _, _ => match σ x with
    | some (.cur ds) => W tab call i σ fun k => match k with
      | .int j => 0 ≤ j ∧ ds.length < 1000 ∧ match ds[j.toNat]? with
        | some (.int u) => W tab call e σ fun d => match d with | .int v => N (upd σ x (.cur (ds.set j.toNat (.int (u + v))))) | _ => False
        | _ => False
      | _ => False
    | _ => False
  | .app x e, σ, N, _, _ => match σ x with
    | some (.cur ds) => W tab call e σ fun d => d.fz ∧ ds.length < 1000 ∧ N (upd σ x (.cur (ds ++ [d])))
    | _ => False
  | .ite c a b, σ, N, B, R => W tab call c σ fun x => truth x fun t => if t then WS a σ N B R else WS b σ N B R
  | .loop t iter body, σ, N, _, R => W tab call iter σ fun x => x.fz ∧ match x.items with
    | some ds => ds.length < 1000000 ∧ ds.foldr (fun d K τ => match bindT t d τ with
        | some τ' => WS body τ' K N R
        | Option.none => False) N σ
    | Option.none => False
  | .whl c body, σ, N, _, R => ∃ n : Nat, Nat.rec (motive := fun _ => Sg → Prop) (fun _ => False)
      (fun _ K τ => W tab call c τ fun x => truth x fun t => if t then WS body τ K N R else N τ) n σ
  | .ret e, σ, _, _, R => W tab call e σ fun d => R d.froze
  | .brk, σ, _, B, _ => B σ
  | .stuck, _, _, _, _ => False

end Cut20
namespace Cut20

/-! From the text's trees to the small language. -/

noncomputable def isVar (sc : Scope) (x : Str) : Bool := match sc.names.lookup x with | some .local => true | some .cell => true | some .free => true | _ => false
noncomputable def isGl (sc : Scope) (x : Str) : Bool := sc.names.lookup x == some .globalImplicit

abbrev Rec := Scope → Expr → Option IE

noncomputable def cConst : Const → Option IE
  | .int i => some (.int i)
  | .str x => some (.str x)
  | .bool b => some (.bool b)
  | .none => some .none
  | _ => none
noncomputable def cVar (sc : Scope) (x : Str) : Option Nat := if isVar sc x then vid x else none
noncomputable def cName (sc : Scope) (x : Str) : Option IE :=
  if isVar sc x then (vid x).map .var else if isGl sc x && x == ("_NO_LINENO" : Str) then some .noLine else none
noncomputable def cOp : Operator → Option BinO
  | .Add => some .add
  | .Sub => some .sub
  | .Mult => some .mul
  | .FloorDiv => some .fdiv
  | .Mod => some .mod
  | .Pow => some .pow
  | _ => none
noncomputable def cBin (r : Rec) (sc : Scope) (l : Expr) (op : Operator) (b : Expr) : Option IE := do
  let o ← cOp op
  let x ← r sc l
  let y ← r sc b
  some (.bin o x y)
noncomputable def cUn (op : UnaryOp) (e : Expr) : Option IE := match op, e with
  | .USub, .Constant (.int i) _ _ => some (.int (-i))
  | _, _ => none
noncomputable def cBool (r : Rec) (sc : Scope) (op : BoolOp) (es : List Expr) : Option IE := match es with
  | [a, b] => do
    let x ← r sc a
    let y ← r sc b
    match op with
    | .And => some (.and x y)
    | .Or => some (.or x y)
  | _ => none
noncomputable def cCo : CmpOp → Option CmpO
  | .Lt => some .lt
  | .LtE => some .le
  | .Gt => some .gt
  | .GtE => some .ge
  | .Eq => some .eq
  | .NotEq => some .ne
  | .In => some .isin
  | .NotIn => some .notin
  | .Is => some .isnone
  | _ => none
noncomputable def asTab (sc : Scope) (e : Expr) : Bool := match e with | .Name x _ => isGl sc x && x == ("EXACT_TOKEN_TYPES" : Str) | _ => false
noncomputable def plainBase (e : Expr) : Bool := match e with | .Call (.Name _ _) [] [] _ => false | _ => true
/-- o.values(), and o -/
noncomputable def asValues (e : Expr) : Option Expr := match e with
  | .Call (.Attribute o m ap) [] [] p => if m == ("values" : Str) && plainBase o && ap.endLine == p.line then some o else none
  | _ => none
noncomputable def isNone (e : Expr) : Bool := match e with | .Constant .none _ _ => true | _ => false
noncomputable def cCmp (r : Rec) (sc : Scope) (l : Expr) (ops : List CmpOp) (rs : List Expr) : Option IE := match ops, rs with
  | [op], [b] =>
    if behindInMarks op b then none else
    match op with
    | .In =>
      if asTab sc b then (r sc l).map .inTab
      else if isNone l then (asValues b).bind fun o => (r sc o).map .noneIn
      else do some (.cmp .isin (← r sc l) (← r sc b))
    | op => do
      let o ← cCo op
      some (.cmp o (← r sc l) (← r sc b))
  | [.LtE, .Lt], [b, c] => if behindInMarks .Lt c then none else do some (.chain (← r sc l) (← r sc b) (← r sc c))
  | _, _ => none
noncomputable def allTexts : List Expr → Option (List Str)
  | [] => some []
  | .Constant (.str x) _ _ :: r => (allTexts r).map (x :: ·)
  | _ => none
noncomputable def cTup (r : Rec) (sc : Scope) (es : List Expr) : Option IE := match allTexts es with
  | some xs => some (.texts xs)
  | none => match es with
    | [a, b] => do some (.tup2 (← r sc a) (← r sc b))
    | _ => none
noncomputable def cList (r : Rec) (sc : Scope) (es : List Expr) : Option IE := match es with
  | [] => some .nil
  | [a] => (r sc a).map .list1
  | _ => none
/-- filter(None, o.values()), and o -/
noncomputable def asFilter (sc : Scope) (e : Expr) : Option Expr := match e with
  | .Call (.Name f _) [n, v] [] _ => if isGl sc f && f == ("filter" : Str) && isNone n then asValues v else none
  | _ => none
noncomputable def isDflt (ks : List Keyword) : Bool := match ks with
  | [⟨some n, .UnaryOp .USub (.Constant (.int i) _ _) _, _⟩] => n == ("default" : Str) && i == 1
  | _ => false
noncomputable def cCall (r : Rec) (sc : Scope) (f : Str) (as : List Expr) (ks : List Keyword) : Option IE :=
  if !isGl sc f then none else
  match ks with
  | [] => match fid f with
    | some i => match as with
      | [a] => do some (.call1 i (← r sc a))
      | [a, b] => do some (.call2 i (← r sc a) (← r sc b))
      | [a, b, c] => do some (.call3 i (← r sc a) (← r sc b) (← r sc c))
      | [a, b, c, d] => do some (.call4 i (← r sc a) (← r sc b) (← r sc c) (← r sc d))
      | _ => none
    | none =>
      if f == ("len" : Str) then (match as with | [a] => (r sc a).map .len | _ => none)
      else if f == ("range" : Str) then (match as with
        | [a] => (r sc a).map .range1
        | [a, b] => do some (.range2 (← r sc a) (← r sc b))
        | [a, b, c] => do some (.range3 (← r sc a) (← r sc b) (← r sc c))
        | _ => none)
      else if f == ("min" : Str) then (match as with | [a] => (r sc a).map .min1 | [a, b] => do some (.min2 (← r sc a) (← r sc b)) | _ => none)
      else if f == ("max" : Str) then (match as with | [a, b] => do some (.max2 (← r sc a) (← r sc b)) | _ => none)
      else if f == ("sorted" : Str) then (match as with | [a] => (r sc a).map .sorted | _ => none)
      else if f == ("list" : Str) then (match as with | [a] => (r sc a).map .listOf | _ => none)
      else if f == ("str" : Str) then (match as with | [a] => (r sc a).map .strOf | _ => none)
      else none
  | ks => if f == ("max" : Str) && isDflt ks then (match as with | [a] => (asFilter sc a).bind fun o => (r sc o).map .maxVals | _ => none) else none
noncomputable def cMeth (r : Rec) (sc : Scope) (o : Expr) (m : Str) (ap : Pos) (as : List Expr) (ks : List Keyword) (p : Pos) : Option IE :=
  if plainBase o && ap.endLine == p.line && ks.isEmpty then
    match as with
    | [a] =>
      if m == ("index" : Str) then do some (.index (← r sc o) (← r sc a))
      else if m == ("join" : Str) then do some (.join (← r sc o) (← r sc a))
      else if m == ("split" : Str) then do some (.split (← r sc o) (← r sc a))
      else none
    | _ => none
  else none
noncomputable def minusOne (e : Expr) : Bool := match e with | .UnaryOp .USub (.Constant (.int i) _ _) _ => i == 1 | _ => false
noncomputable def notSlice (e : Expr) : Bool := match e with | .Slice .. => false | _ => true
noncomputable def cSub (r : Rec) (sc : Scope) (v i : Expr) : Option IE :=
  if asTab sc v then (if notSlice i then (r sc i).map .tabAt else none) else
  match i with
  | .Slice (some a) (some b) none _ => do some (.slice (← r sc v) (← r sc a) (← r sc b))
  | .Slice none (some b) none _ => do some (.sliceTo (← r sc v) (← r sc b))
  | .Slice none none (some c) _ => if minusOne c then (r sc v).map .rev else none
  | .Slice .. => none
  | i => do some (.idx (← r sc v) (← r sc i))

/-- a comprehension's own scope within sc: what it reads from outside -/
noncomputable def scopeOk (sc csc : Scope) : Bool :=
  csc.kind == .function && csc.names.all fun p => csc.names.lookup p.1 == some p.2 &&
    (match p.2 with
      | .free => sc.names.lookup p.1 == some .cell || sc.names.lookup p.1 == some .free
      | .local => true
      | .cell => true
      | .globalImplicit => sc.names.lookup p.1 == none || sc.names.lookup p.1 == some .globalImplicit || true
      | _ => false)
noncomputable def visOf (csc : Scope) : List Nat := csc.names.filterMap fun p => if p.2 == .free then vid p.1 else none
/-- a name that a comprehension's for binds -/
noncomputable def ownName (csc : Scope) (x : Str) : Bool := csc.names.lookup x == some .local || csc.names.lookup x == some .cell
noncomputable def cTgt (ok : Str → Bool) (t : Expr) : Option Tgt := match t with
  | .Name x _ => if ok x then (vid x).map .one else none
  | .Tuple [.Name x _, .Name y _] _ _ => if ok x && ok y && x != y then (do some (.two (← vid x) (← vid y))) else none
  | _ => none
noncomputable def cCond (r : Rec) (sc : Scope) (ifs : List Expr) : Option (Bool × IE) := match ifs with
  | [] => some (false, .none)
  | [c] => (r sc c).map fun x => (true, x)
  | _ => none
noncomputable def notSet (e : Expr) : Bool := match e with | .Set .. => false | _ => true
noncomputable def cLC (r : Rec) (sc : Scope) (elt : Expr) (gs : List Comprehension) (csc : Scope) : Option IE :=
  if !scopeOk sc csc then none else
  match gs with
  | [⟨t, it, ifs, 0⟩] => if !notSet it then none else do
    let t ← cTgt (ownName csc) t
    let i ← r sc it
    let c ← cCond r csc ifs
    let e ← r csc elt
    some (.comp e t i c.1 c.2 (visOf csc))
  | [⟨t, it, [], 0⟩, ⟨t2, it2, ifs, 0⟩] => if !notSet it || !notSet it2 then none else do
    let t ← cTgt (ownName csc) t
    let i ← r sc it
    let t2 ← cTgt (ownName csc) t2
    let i2 ← r csc it2
    let c ← cCond r csc ifs
    let e ← r csc elt
    some (.comp2 e t i t2 i2 c.1 c.2 (visOf csc))
  | _ => none
noncomputable def cDC (r : Rec) (sc : Scope) (kx vx : Expr) (gs : List Comprehension) (csc : Scope) : Option IE :=
  if !scopeOk sc csc then none else
  match gs with
  | [⟨t, it, [], 0⟩] => if !notSet it then none else do
    let t ← cTgt (ownName csc) t
    let i ← r sc it
    let k ← r csc kx
    let v ← r csc vx
    some (.dcomp k v t i (visOf csc))
  | _ => none

noncomputable def cStep (r : Rec) : Rec := fun sc e => match e with
  | .Constant c _ _ => cConst c
  | .Name x _ => cName sc x
  | .BinOp l op b _ => cBin r sc l op b
  | .UnaryOp op x _ => cUn op x
  | .BoolOp op es _ => cBool r sc op es
  | .Compare l ops rs _ => cCmp r sc l ops rs
  | .IfExp t a b _ => do some (.ite (← r sc t) (← r sc a) (← r sc b))
  | .Tuple es _ _ => cTup r sc es
  | .List es _ => cList r sc es
  | .Call (.Attribute o m ap) as ks p => cMeth r sc o m ap as ks p
  | .Call (.Name f _) as ks _ => cCall r sc f as ks
  | .Subscript v i _ => cSub r sc v i
  | .ListComp elt gs csc _ => cLC r sc elt gs csc
  | .DictComp kx vx gs csc _ => cDC r sc kx vx gs csc
  | _ => none
noncomputable def cE : Nat → Rec
  | 0 => fun _ _ => none
  | n + 1 => cStep (cE n)

/-- a display of written ints and pairs of written ints -/
noncomputable def cItem : Expr → Option PV
  | .Constant (.int i) _ _ => some (.int i)
  | .Tuple [.Constant (.int i) _ _, .Constant (.int j) _ _] _ _ => some (.tup [.int i, .int j])
  | _ => none
noncomputable def cItems : List Expr → Option (List PV)
  | [] => some []
  | e :: r => do some ((← cItem e) :: (← cItems r))
noncomputable def cStore (sc : Scope) (x : Str) : Option Nat := if sc.names.lookup x == some .local || sc.names.lookup x == some .cell then vid x else none
noncomputable def isRaise : Stmt → Bool
  | .Raise .. => true
  | _ => false

noncomputable def cStmt (r : Rec) (sc : Scope) (bl : List Stmt → Option IS) (s : Stmt) : Option IS := match s with
  | .Assign [.Name x _] v _ => (cStore sc x).bind fun i => match v with
    | .List es _ => if es.length < 100 then (cItems es).map (.new i) else none
    | v => (r sc v).map (.asg i)
  | .Assign [.Subscript (.Name x _) i _] v _ => if notSlice i then do some (.setI (← cVar sc x) (← r sc i) (← r sc v)) else none
  | .AugAssign (.Name x _) .Add v _ => do some (.augV (← cStore sc x) (← r sc v))
  | .AugAssign (.Subscript (.Name x _) i _) .Add v _ => if notSlice i then do some (.augI (← cVar sc x) (← r sc i) (← r sc v)) else none
  | .Expr (.Call (.Attribute (.Name x _) m ap) [e] [] p) _ => if m == ("append" : Str) && ap.endLine == p.line then do some (.app (← cVar sc x) (← r sc e)) else none
  | .If t b o _ => do some (.ite (← r sc t) (← bl b) (← bl o))
  | .For t it b [] _ => if !notSet it then none else do some (.loop (← cTgt (ownName sc) t) (← r sc it) (← bl b))
  | .While t b [] _ => do some (.whl (← r sc t) (← bl b))
  | .Return (some e) _ => do some (.ret (← r sc e))
  | .Break _ => some .brk
  | .Raise .. => some .stuck
  | _ => none
noncomputable def cS (r : Rec) (sc : Scope) : Nat → List Stmt → Option IS
  | 0, _ => none
  | _, [] => some .nop
  | n + 1, s :: rest => do
    let a ← cStmt r sc (cS r sc n) s
    let b ← cS r sc n rest
    some (.seq a b)

noncomputable def defOf (p : Program) (n : Str) : Option (Arguments × List Stmt × Scope) := p.main.body.findSome? fun
  | .FunctionDef m a b _ _ _ sc _ _ _ => if m == n then some (a, b, sc) else none
  | _ => none
noncomputable def paramsOf (a : Arguments) : Option (List Nat) := a.args.mapM fun x => vid x.arg
noncomputable def compiled (p : Program) (n : Str) : Option (List Nat × IS) := (defOf p n).bind fun (a, b, sc) => do
  some (← paramsOf a, ← cS (cE 20) sc 20 b)
end Cut20
namespace Cut20

/-! What a small language's node came from. -/
noncomputable def TgtIs (ok : Str → Bool) (te : Expr) (t : Tgt) : Prop := (∃ x p i, te = .Name x p ∧ ok x = true ∧ vid x = some i ∧ t = .one i) ∨
    ∃ x px y py k pp i j, te = .Tuple [.Name x px, .Name y py] k pp ∧ ok x = true ∧ ok y = true ∧ x ≠ y ∧ vid x = some i ∧ vid y = some j ∧ t = .two i j
theorem cTgt_of {ok : Str → Bool} {te : Expr} {t : Tgt} (h : cTgt ok te = some t) : TgtIs ok te t := by
  cases te with
  | Name x p =>
    have h : (if ok x then (vid x).map Tgt.one else none) = some t := h
    cases hx : ok x with
    | false => rw [hx] at h; exact no_some h
    | true =>
      rw [hx] at h
      obtain ⟨i, hi, rfl⟩ := Option.map_eq_some_iff.mp (show (vid x).map Tgt.one = some t from h)
      exact .inl ⟨x, p, i, rfl, hx, hi, rfl⟩
  | Tuple es k pp =>
    cases es with
    | nil => exact no_some h
    | cons a es =>
      cases a with
      | Name x px =>
        cases es with
        | nil => exact no_some h
        | cons b es =>
          cases b with
          | Name y py =>
            cases es with
            | cons _ _ => exact no_some h
            | nil =>
              have h : (if ok x && ok y && x != y then (vid x).bind fun i => (vid y).bind fun j => some (Tgt.two i j) else none) = some t := h
              cases hc : ok x && ok y && x != y with
              | false => rw [hc] at h; exact no_some h
              | true =>
                rw [hc] at h
                obtain ⟨i, hi, h⟩ := Option.bind_eq_some_iff.mp (show ((vid x).bind fun i => (vid y).bind fun j => some (Tgt.two i j)) = some t from h)
                obtain ⟨j, hj, h⟩ := Option.bind_eq_some_iff.mp h
                obtain ⟨hxy, hn⟩ := Bool.and_eq_true_iff.mp hc
                obtain ⟨hx, hy⟩ := Bool.and_eq_true_iff.mp hxy
                exact .inr ⟨x, px, y, py, k, pp, i, j, rfl, hx, hy, bne_iff_ne.mp hn, hi, hj, (Option.some.inj h).symm⟩
          | _ => exact no_some h
      | _ => exact no_some h
  | _ => exact no_some h
noncomputable def ItemIs (e : Expr) (d : PV) : Prop := (∃ i k p, e = .Constant (.int i) k p ∧ d = .int i) ∨
    ∃ i ki pi j kj pj kt pt, e = .Tuple [.Constant (.int i) ki pi, .Constant (.int j) kj pj] kt pt ∧ d = .tup [.int i, .int j]
theorem cItem_of {e : Expr} {d : PV} (h : cItem e = some d) : ItemIs e d := by
  cases e with
  | Constant c k p =>
    cases c with
    | int i => exact .inl ⟨i, k, p, rfl, (Option.some.inj h).symm⟩
    | _ => exact no_some h
  | Tuple es kt pt =>
    cases es with
    | nil => exact no_some h
    | cons a es =>
      cases a with
      | Constant c ki pi =>
        cases c with
        | int i =>
          cases es with
          | nil => exact no_some h
          | cons b es =>
            cases b with
            | Constant c kj pj =>
              cases c with
              | int j =>
                cases es with
                | cons _ _ => exact no_some h
                | nil => exact .inr ⟨i, ki, pi, j, kj, pj, kt, pt, rfl, (Option.some.inj h).symm⟩
              | _ => exact no_some h
            | _ => exact no_some h
        | _ => exact no_some h
      | _ => exact no_some h
  | _ => exact no_some h
noncomputable def MinusOneIs (e : Expr) : Prop := ∃ k p q, e = .UnaryOp .USub (.Constant (.int 1) k p) q
theorem minusOne_of {e : Expr} (h : minusOne e = true) : MinusOneIs e := by
  cases e with
  | UnaryOp op x q =>
    cases op with
    | USub =>
      cases x with
      | Constant c k p =>
        cases c with
        | int i =>
          obtain rfl : i = 1 := beq_iff_eq.mp h
          exact ⟨k, p, q, rfl⟩
        | _ => exact no_tt h
      | _ => exact no_tt h
    | _ => exact no_tt h
  | _ => exact no_tt h
noncomputable def DfltIs (ks : List Keyword) : Prop := ∃ k p q r, ks = [⟨some (Str.ofString "default"), .UnaryOp .USub (.Constant (.int 1) k p) q, r⟩]
theorem isDflt_of {ks : List Keyword} (h : isDflt ks = true) : DfltIs ks := by
  cases ks with
  | nil => exact no_tt h
  | cons a ks =>
    obtain ⟨nm, v, r⟩ := a
    cases nm with
    | none => exact no_tt h
    | some n =>
      cases v with
      | UnaryOp op x q =>
        cases op with
        | USub =>
          cases x with
          | Constant c k p =>
            cases c with
            | int i =>
              cases ks with
              | cons _ _ => exact no_tt h
              | nil =>
                obtain ⟨h1, h2⟩ := Bool.and_eq_true_iff.mp (show (n == ("default" : Str) && i == 1) = true from h)
                obtain rfl : n = Str.ofString "default" := beq_iff_eq.mp h1
                obtain rfl : i = 1 := beq_iff_eq.mp h2
                exact ⟨k, p, q, r, rfl⟩
            | _ => exact no_tt h
          | _ => exact no_tt h
        | _ => exact no_tt h
      | _ => exact no_tt h
noncomputable def ValuesIs (e o : Expr) : Prop := ∃ m ap p, e = .Call (.Attribute o m ap) [] [] p ∧ (m == ("values" : Str)) = true ∧ plainBase o = true ∧ (ap.endLine == p.line) = true
theorem asValues_of {e o : Expr} (h : asValues e = some o) : ValuesIs e o := by
  cases e with
  | Call f as ks p =>
    cases f with
    | Attribute o' m ap =>
      cases as with
      | cons _ _ => exact no_some h
      | nil =>
        cases ks with
        | cons _ _ => exact no_some h
        | nil =>
          have h : (if m == ("values" : Str) && plainBase o' && ap.endLine == p.line then some o' else none) = some o := h
          cases hc : (m == ("values" : Str) && plainBase o' && ap.endLine == p.line) with
          | false => rw [hc] at h; exact no_some h
          | true =>
            rw [hc] at h
            obtain rfl := Option.some.inj h
            obtain ⟨h1, h3⟩ := Bool.and_eq_true_iff.mp hc
            obtain ⟨h1, h2⟩ := Bool.and_eq_true_iff.mp h1
            exact ⟨m, ap, p, rfl, h1, h2, h3⟩
    | _ => exact no_some h
  | _ => exact no_some h
noncomputable def NoneIs (e : Expr) : Prop := ∃ x p, e = .Constant .none x p
theorem isNone_of {e : Expr} (h : isNone e = true) : NoneIs e := by
  cases e with
  | Constant c x p => cases c with
    | none => exact ⟨x, p, rfl⟩
    | _ => exact no_tt h
  | _ => exact no_tt h
noncomputable def FilterIs (sc : Scope) (e o : Expr) : Prop := ∃ p x q v r, e = .Call (.Name (Str.ofString "filter") p) [.Constant .none x q, v] [] r ∧ isGl sc (Str.ofString "filter") = true ∧ asValues v = some o
theorem asFilter_of {sc : Scope} {e o : Expr} (h : asFilter sc e = some o) : FilterIs sc e o := by
  cases e with
  | Call f as ks r =>
    cases f with
    | Name ff p =>
      cases as with
      | nil => exact no_some h
      | cons n as =>
        cases as with
        | nil => exact no_some h
        | cons v as =>
          cases as with
          | cons _ _ => exact no_some h
          | nil =>
            cases ks with
            | cons _ _ => exact no_some h
            | nil =>
              have h' : (if isGl sc ff && ff == ("filter" : Str) && isNone n then asValues v else none) = some o := h
              cases hc : (isGl sc ff && ff == ("filter" : Str) && isNone n) with
              | false => rw [hc] at h'; exact no_some h'
              | true =>
                rw [hc] at h'
                obtain ⟨h1, h3⟩ := Bool.and_eq_true_iff.mp hc
                obtain ⟨h1, h2⟩ := Bool.and_eq_true_iff.mp h1
                obtain rfl : ff = Str.ofString "filter" := beq_iff_eq.mp h2
                obtain ⟨x, q, rfl⟩ := isNone_of h3
                exact ⟨p, x, q, v, r, rfl, h1, show asValues v = some o from h'⟩
    | _ => exact no_some h
  | _ => exact no_some h
noncomputable def TabIs (sc : Scope) (b : Expr) : Prop := ∃ p, b = .Name (Str.ofString "EXACT_TOKEN_TYPES") p ∧ isGl sc (Str.ofString "EXACT_TOKEN_TYPES") = true
theorem asTab_of {sc : Scope} {b : Expr} (h : asTab sc b = true) : TabIs sc b := by
  cases b with
  | Name x p =>
    obtain ⟨h1, h2⟩ := Bool.and_eq_true_iff.mp (show (isGl sc x && x == ("EXACT_TOKEN_TYPES" : Str)) = true from h)
    obtain rfl : x = Str.ofString "EXACT_TOKEN_TYPES" := beq_iff_eq.mp h2
    exact ⟨p, rfl, h1⟩
  | _ => exact no_tt h
theorem notSet_is {e : Expr} (h : notSet e = true) : ∀ es k p, e ≠ .Set es k p := by
  intro es k p q
  subst q
  exact no_tt h
end Cut20
namespace Cut20

/-! What stands (the module's names), what a frame's names hold, what an evaluation leaves. -/

noncomputable def bnames : List (Str × Value) := [(Str.ofString "len", .builtin "len"), (Str.ofString "range", .type "range"), (Str.ofString "min", .builtin "min"), (Str.ofString "max", .builtin "max"),
  (Str.ofString "sorted", .builtin "sorted"), (Str.ofString "list", .type "list"), (Str.ofString "str", .type "str"), (Str.ofString "filter", .type "filter")]

structure Stat (prog : Program) (w : World) (mg mb : Str → Option Value) (tab : Str → Option Int) (h : Heap) : Prop where
  g : h.Ns mainGlobals mg
  b : h.Ns builtinsNs mb
  nolimit : h.NoLimit
  digits : ∃ mc, h.Ns cStatics mc ∧ mc (Str.ofString "sys.int_max_str_digits") = none
  bi : ∀ p ∈ bnames, mg p.1 = none ∧ mb p.1 = some p.2
  line : ∃ t, mg (Str.ofString "_NO_LINENO") = some (.str (Str.ofString "  --") t)
  tabl : ∃ a f, mg (Str.ofString "EXACT_TOKEN_TYPES") = some (.ref a) ∧ (a == sysModules) = false ∧ h.MapOf (PySem.strKind prog w) a f ∧
    ∀ x, (tab x = none → f x = none) ∧ ∀ i, tab x = some i → ∃ t, f x = some (.int i t)
  fns : ∀ f i, fid f = some i → ∃ a o params body sc pm cd doc, mg f = some (.ref a) ∧ h.get? a = some o ∧ o.data = .func (Calls.docDef f params body sc pm cd doc) ∧ h.CodeRec cd f ∧ defOf prog f = some (params, body, sc)

theorem Stat.keeps {prog : Program} {w : World} {mg mb : Str → Option Value} {tab : Str → Option Int} {h h' : Heap} (x : Stat prog w mg mb tab h) (k : Ext h h') : Stat prog w mg mb tab h' where
  g := x.g.keeps k
  b := x.b.keeps k
  nolimit := x.nolimit.keeps k
  digits := by
    obtain ⟨mc, a, b⟩ := x.digits
    exact ⟨mc, a.keeps k, b⟩
  bi := x.bi
  line := x.line
  tabl := by
    obtain ⟨a, f, p, q, m, t⟩ := x.tabl
    refine ⟨a, f, p, q, ?_, t⟩
    obtain ⟨o, es, ep, ho, r⟩ := m
    exact ⟨o, es, ep, k _ _ ho, r⟩
  fns := by
    intro f i hf
    obtain ⟨a, o, params, body, sc, pm, cd, doc, p, q, r, c, d⟩ := x.fns f i hf
    exact ⟨a, o, params, body, sc, pm, cd, doc, p, k _ _ q, r, c.keeps k, d⟩

noncomputable def VarAt (h : Heap) (env : Env) (x : Str) (v : Value) : Prop :=
  (env.kindOf x = some .local ∧ ∃ m, h.Ns env.locals m ∧ m x = some v) ∨
  ((env.kindOf x = some .cell ∨ env.kindOf x = some .free) ∧ ∃ c, env.cells.lookup x = some c ∧ h.IsCell c (some v))
theorem VarAt.keeps {h h' : Heap} {env : Env} {x : Str} {v : Value} (a : VarAt h env x v) (k : Ext h h') : VarAt h' env x v := by
  rcases a with ⟨p, m, q, r⟩ | ⟨p, c, q, r⟩
  · exact .inl ⟨p, m, q.keeps k, r⟩
  · exact .inr ⟨p, c, q, r.keeps k⟩

/-- the scope a text was read in fits the frame -/
structure Fit (sc : Scope) (env : Env) : Prop where
  kind : env.scope.kind = .function
  glob : env.globals = mainGlobals
  blt : env.builtins = builtinsNs
  loc : ∀ x, sc.names.lookup x = some .local → env.kindOf x = some .local
  gl : ∀ x, sc.names.lookup x = some .globalImplicit → env.kindOf x = some .globalImplicit
  cel : ∀ x, sc.names.lookup x = some .cell → env.kindOf x = some .cell
  fre : ∀ x, sc.names.lookup x = some .free → env.kindOf x = some .free ∨ env.kindOf x = some .cell
  hasCell : ∀ x, env.kindOf x = some .cell ∨ env.kindOf x = some .free → ∃ c, env.cells.lookup x = some c

structure At (prog : Program) (w : World) (mg mb : Str → Option Value) (tab : Str → Option Int) (g μ : Zone) (env : Env) (σ : Sg) (s : Shared) : Prop where
  gin : g.In s.heap
  min : μ.In s.heap
  stat : Stat prog w mg mb tab s.heap
  var : ∀ x i d, vid x = some i → σ i = some d → ∃ v, VarAt s.heap env x v ∧ RepM prog w g μ v d
  cel : ∀ x c, (env.kindOf x = some .cell ∨ env.kindOf x = some .free) → env.cells.lookup x = some c → ∃ u, s.heap.IsCell c u

/-- the heap has grown alone -/
structure Kp (s s' : Shared) : Prop where
  is : ∃ h' tk, s' = { s with heap := h', toks := tk } ∧ Ext s.heap h'
theorem Kp.refl (s : Shared) : Kp s s := ⟨s.heap, s.toks, rfl, fun _ _ e => e⟩
theorem Kp.ext {s s' : Shared} (k : Kp s s') : Ext s.heap s'.heap := by obtain ⟨h, t, rfl, e⟩ := k.is; exact e
theorem Kp.trans {s s' s'' : Shared} (x : Kp s s') (y : Kp s' s'') : Kp s s'' := by
  obtain ⟨h, t, rfl, e⟩ := x.is
  obtain ⟨h', t', rfl, e'⟩ := y.is
  exact ⟨h', t', rfl, fun b o q => e' b o (e b o q)⟩
theorem Kp.mk' {s : Shared} {h' : Heap} {t : Nat} (e : Ext s.heap h') : Kp s { s with heap := h', toks := t } := ⟨h', t, rfl, e⟩
theorem Kp.tok {s : Shared} {t : Nat} : Kp s { s with toks := t } := ⟨s.heap, t, rfl, fun _ _ e => e⟩
theorem Kp.push {s : Shared} {o : Obj} : Kp s { s with heap := s.heap.push o } := ⟨_, s.toks, rfl, fun _ _ e => Heap.get?_push_of_some _ e⟩

/-- from zone g at s to zone g' at s' -/
structure Step (g : Zone) (s : Shared) (g' : Zone) (s' : Shared) : Prop where
  le : g.le g'
  fresh : ∀ a o, g' a = some o → g a = some o ∨ s.heap.get? a = none
  gin : g'.In s'.heap
  keep : Kp s s'
theorem Step.refl {g : Zone} {s : Shared} (h : g.In s.heap) : Step g s g s := ⟨Zone.le.refl g, fun _ _ e => .inl e, h, Kp.refl s⟩
theorem Step.of {g : Zone} {s s' : Shared} (h : g.In s.heap) (k : Kp s s') : Step g s g s' := ⟨Zone.le.refl g, fun _ _ e => .inl e, h.ext k.ext, k⟩
theorem none_of_keep {h h' : Heap} {a : Addr} (k : Ext h h') (e : h'.get? a = none) : h.get? a = none := by
  cases q : h.get? a with
  | none => rfl
  | some o => rw [k a o q] at e; cases e
theorem Step.trans {g g' g'' : Zone} {s s' s'' : Shared} (x : Step g s g' s') (y : Step g' s' g'' s'') : Step g s g'' s'' where
  le := x.le.trans y.le
  fresh := fun a o e => by
    rcases y.fresh a o e with h | h
    · exact x.fresh a o h
    · exact .inr (none_of_keep x.keep.ext h)
  gin := y.gin
  keep := x.keep.trans y.keep

noncomputable def Zone.add (g : Zone) (a : Addr) (o : Obj) : Zone := fun b => if b = a then some o else g b
theorem Zone.add_self {g : Zone} {a : Addr} {o : Obj} : g.add a o a = some o := if_pos rfl
theorem Zone.le_add {g : Zone} {a : Addr} {o : Obj} (h : g a = none) : g.le (g.add a o) := fun b o' e => by
  unfold Zone.add
  by_cases hb : b = a
  · subst hb; rw [h] at e; cases e
  · rw [if_neg hb]; exact e
theorem Zone.none_of {g : Zone} {h : Heap} {a : Addr} (x : g.In h) (e : h.get? a = none) : g a = none := by
  cases q : g a with
  | none => rfl
  | some o => rw [x a o q] at e; cases e
/-- a new object goes into the zone -/
theorem Step.add {g : Zone} {s s' : Shared} {a : Addr} {o : Obj} (h : g.In s.heap) (k : Kp s s') (ha : s.heap.get? a = none) (ho : s'.heap.get? a = some o) : Step g s (g.add a o) s' where
  le := Zone.le_add (Zone.none_of h ha)
  fresh := fun b o' e => by
    unfold Zone.add at e
    by_cases hb : b = a
    · subst hb; exact .inr ha
    · rw [if_neg hb] at e; exact .inl e
  gin := fun b o' e => by
    unfold Zone.add at e
    by_cases hb : b = a
    · subst hb; rw [if_pos rfl] at e; cases e; exact ho
    · rw [if_neg hb] at e; exact k.ext b o' (h b o' e)
  keep := k
theorem get?_size (h : Heap) : h.get? h.objs.size = none := Heap.get?_none_of_le (Nat.le_refl _)

section
variable {prog : Program} {w : World} {mg mb : Str → Option Value} {tab : Str → Option Int} {g g' μ : Zone} {env : Env} {σ : Sg} {s s' : Shared}
theorem At.step (x : At prog w mg mb tab g μ env σ s) (y : Step g s g' s') : At prog w mg mb tab g' μ env σ s' where
  gin := y.gin
  min := x.min.ext y.keep.ext
  stat := x.stat.keeps y.keep.ext
  var := fun n i d a b => let ⟨v, p, q⟩ := x.var n i d a b; ⟨v, p.keeps y.keep.ext, q.up y.le (Zone.le.refl _)⟩
  cel := fun n c a b => let ⟨u, h⟩ := x.cel n c a b; ⟨u, h.keeps y.keep.ext⟩

/-- the end of an evaluation -/
noncomputable def Post (prog : Program) (w : World) (g μ : Zone) (s : Shared) (D : Cb) (v : Value) (s' : Shared) : Prop := ∃ g' d, Step g s g' s' ∧ RepM prog w g' μ v d ∧ D d
/-- the end of a test -/
noncomputable def PostT (g : Zone) (s : Shared) (T : Bool → Prop) (b : Bool) (s' : Shared) : Prop := ∃ g', Step g s g' s' ∧ T b
abbrev noE : Value → Shared → Prop := fun _ _ => False
theorem Post.after {D : Cb} {v : Value} {s'' : Shared} (x : Step g s g' s') (p : Post prog w g' μ s' D v s'') : Post prog w g μ s D v s'' :=
  let ⟨g₂, d, y, r, h⟩ := p; ⟨g₂, d, x.trans y, r, h⟩
theorem PostT.after {T : Bool → Prop} {b : Bool} {s'' : Shared} (x : Step g s g' s') (p : PostT g' s' T b s'') : PostT g s T b s'' :=
  let ⟨g₂, y, h⟩ := p; ⟨g₂, x.trans y, h⟩
theorem Post.mono {D D' : Cb} {v : Value} (h : ∀ d, D d → D' d) (p : Post prog w g μ s D v s') : Post prog w g μ s D' v s' := let ⟨g₂, d, y, r, q⟩ := p; ⟨g₂, d, y, r, h d q⟩
/-- a plain value, the heap as it was -/
theorem Post.val {D : Cb} {v : Value} {d : PV} {t : Nat} (h : g.In s.heap) (r : Rep prog w g v d) (q : D d) : Post prog w g μ s D v { s with toks := t } := ⟨g, d, .of h .tok, .fr r, q⟩
theorem Post.here {D : Cb} {v : Value} {d : PV} (h : g.In s.heap) (r : Rep prog w g v d) (q : D d) : Post prog w g μ s D v s := ⟨g, d, .refl h, .fr r, q⟩
theorem Post.keep {D : Cb} {v : Value} {d : PV} (h : g.In s.heap) (k : Kp s s') (r : Rep prog w g v d) (q : D d) : Post prog w g μ s D v s' := ⟨g, d, .of h k, .fr r, q⟩
end

/-- what the calls around leave of room -/
structure Room (k : Nat) (A : Around) : Prop where
  handled : A.handled = none
  depth : A.depth + k < recursionLimit
  units : A.units + 5 * k + 200 < cLine
theorem Room.less {k k' : Nat} {A : Around} (h : Room k A) (l : k' ≤ k) : Room k' A := ⟨h.handled, by have := h.depth; omega, by have := h.units; omega⟩

noncomputable def names40 : Bool := vnames.all fun y => !(y == Str.ofString "__debug__") && !(y == Str.ofString "__classdict__")
theorem vid_get {x : Str} {i : Nat} (h : vid x = some i) : vnames[i]? = some x := by
  unfold vid at h
  rw [List.findIdx?_eq_some_iff_getElem] at h
  obtain ⟨hi, he, _⟩ := h
  rw [List.getElem?_eq_getElem hi]
  exact congrArg some (by simpa using he)
theorem vid_inj {x y : Str} {i : Nat} (h : vid x = some i) (k : vid y = some i) : x = y := by
  have a := vid_get h
  rw [vid_get k] at a
  exact (Option.some.inj a).symm
theorem vid_plain {x : Str} {i : Nat} (h : vid x = some i) : (x == Str.ofString "__debug__") = false ∧ (x == Str.ofString "__classdict__") = false := by
  have a : x ∈ vnames := List.mem_of_getElem? (vid_get h)
  have b : names40 = true := by decide +kernel
  unfold names40 at b
  have c := List.all_eq_true.mp b x a
  simpa using c

section
variable {prog : Program} {w : World} {mg mb : Str → Option Value} {tab : Str → Option Int} {g g' μ : Zone} {env : Env} {σ : Sg} {s s' : Shared} {A : Around} {sc : Scope}
theorem var_ok {x : Str} {v : Value} {Q : Value → Shared → Prop} {E : Value → Shared → Prop} (hk : env.scope.kind = .function) (a : VarAt s.heap env x v) (hx : (x == Str.ofString "__classdict__") = false) (h : Q v s) :
    wpAny (model prog w) A (loadName env x) Q E s := by
  rcases a with ⟨p, m, q, r⟩ | ⟨p | p, c, q, r⟩
  · exact wpAny_loadName_local hk p q r h
  · exact wpAny_loadName_cell hk p q r h
  · exact wpAny_loadName_free hk p q r h hx

theorem name_var {x : Str} {i : Nat} {pos : Pos} {D : Cb} (F : Fit sc env) (a : At prog w mg mb tab g μ env σ s) (hi : vid x = some i) (h : match σ i with | some d => D d | Option.none => False) :
    wpAny (model prog w) A (eval (.Name x pos) env) (Post prog w g μ s D) noE s := by
  cases hd : σ i with
  | none => rw [hd] at h; exact h.elim
  | some d =>
    rw [hd] at h
    obtain ⟨v, p, q⟩ := a.var x i d hi hd
    exact wpAny_Name (var_ok F.kind p (vid_plain hi).2 ⟨g, d, .refl a.gin, q, h⟩) (vid_plain hi).1
theorem name_glob {x : Str} {v : Value} {pos : Pos} {Q : Value → Shared → Prop} {E : Value → Shared → Prop} (F : Fit sc env) (a : At prog w mg mb tab g μ env σ s) (hx : isGl sc x = true) (hv : mg x = some v)
    (hd : (x == Str.ofString "__debug__") = false) (h : Q v s) : wpAny (model prog w) A (eval (.Name x pos) env) Q E s :=
  Calls.Name_function_global F.kind (F.gl x (by simpa [isGl] using hx)) (Calls.loadGlobal_global (F.glob ▸ a.stat.g) hv h) hd
theorem name_built {x : Str} {v : Value} {pos : Pos} {Q : Value → Shared → Prop} {E : Value → Shared → Prop} (F : Fit sc env) (a : At prog w mg mb tab g μ env σ s) (hx : isGl sc x = true) (hm : (x, v) ∈ bnames)
    (hd : (x == Str.ofString "__debug__") = false) (h : Q v s) : wpAny (model prog w) A (eval (.Name x pos) env) Q E s :=
  Calls.Name_function_global F.kind (F.gl x (by simpa [isGl] using hx)) (Calls.loadGlobal_builtin (F.glob ▸ a.stat.g) (a.stat.bi _ hm).1 (F.blt ▸ a.stat.b) (a.stat.bi _ hm).2 h) hd
end
end Cut20
namespace Cut20

/-! Single operations on data: what the model gives. -/

noncomputable def opOf : BinO → Operator
  | .add => .Add
  | .sub => .Sub
  | .mul => .Mult
  | .fdiv => .FloorDiv
  | .mod => .Mod
  | .pow => .Pow
theorem cOp_of {op : Operator} {o : BinO} (h : cOp op = some o) : op = opOf o := by
  cases op <;> simp only [cOp, Option.some.injEq, reduceCtorEq] at h <;> first | (subst h; rfl) | exact h.elim
noncomputable def coOf : CmpO → CmpOp
  | .lt => .Lt
  | .le => .LtE
  | .gt => .Gt
  | .ge => .GtE
  | .eq => .Eq
  | .ne => .NotEq
  | .isin => .In
  | .notin => .NotIn
  | .isnone => .Is
theorem cCo_of {op : CmpOp} {o : CmpO} (h : cCo op = some o) : op = coOf o := by
  cases op <;> simp only [cCo, Option.some.injEq, reduceCtorEq] at h <;> first | (subst h; rfl) | exact h.elim

section
variable {prog : Program} {w : World} {g μ : Zone} {s : Shared} {A : Around} {E : Value → Shared → Prop}

theorem Rep.isInt {v : Value} {i : Int} (h : Rep prog w g v (.int i)) : ∃ t, v = .int i t := by cases h; exact ⟨_, rfl⟩
theorem Rep.isStr {v : Value} {x : Str} (h : Rep prog w g v (.str x)) : ∃ t, v = .str x t := by cases h; exact ⟨_, rfl⟩
theorem Rep.isBool {v : Value} {b : Bool} (h : Rep prog w g v (.bool b)) : v = .bool b := by cases h; rfl
theorem RepM.isInt {v : Value} {i : Int} (h : RepM prog w g μ v (.int i)) : ∃ t, v = .int i t := by cases h with | fr h => exact h.isInt
theorem RepM.isStr {v : Value} {x : Str} (h : RepM prog w g μ v (.str x)) : ∃ t, v = .str x t := by cases h with | fr h => exact h.isStr
theorem RepM.isBool {v : Value} {b : Bool} (h : RepM prog w g μ v (.bool b)) : v = .bool b := by cases h with | fr h => exact h.isBool
theorem RepM.frz {v : Value} {d : PV} (h : RepM prog w g μ v d) (f : d.fz) : Rep prog w g v d := by
  cases h with
  | fr h => exact h
  | cur a b => exact f.elim
theorem Rep.isList {v : Value} {ds : List PV} (h : Rep prog w g v (.list ds)) : ∃ a vs n, v = .ref a ∧ g a = some ({ cls := .type "list", data := .seq vs.toArray n } : Obj) ∧ RepAll prog w g vs ds ∧ (vs : List Value).length = ds.length := by
  cases h with
  | list h r => exact ⟨_, _, _, rfl, h, r, r.length⟩
theorem Rep.isTup {v : Value} {ds : List PV} (h : Rep prog w g v (.tup ds)) : ∃ a vs n, v = .ref a ∧ g a = some ({ cls := .type "tuple", data := .seq vs.toArray n } : Obj) ∧ RepAll prog w g vs ds ∧ (vs : List Value).length = ds.length := by
  cases h with
  | tup h r => exact ⟨_, _, _, rfl, h, r, r.length⟩
/-- a list, frozen or not, as the heap has it -/
theorem RepM.seq {v : Value} {d : PV} {ds : List PV} (h : RepM prog w g μ v d) (e : d.seq = some ds) (gi : g.In s.heap) (mi : μ.In s.heap) :
    ∃ a vs n, v = .ref a ∧ s.heap.get? a = some ({ cls := .type "list", data := .seq vs.toArray n } : Obj) ∧ RepAll prog w g vs ds ∧ (vs : List Value).length = ds.length := by
  cases h with
  | fr h =>
    cases d with
    | list es =>
      cases e
      obtain ⟨a, vs, n, rfl, p, q, l⟩ := h.isList
      exact ⟨a, vs, n, rfl, gi _ _ p, q, l⟩
    | cur es => cases h
    | _ => cases e
  | cur p q => cases e; exact ⟨_, _, _, rfl, mi _ _ p, q, q.length⟩
theorem isList_of {h : Heap} {a : Addr} {vs : List Value} {n : Nat} (e : h.get? a = some ({ cls := .type "list", data := .seq vs.toArray n } : Obj)) : h.IsList a vs.toArray := ⟨_, e, rfl, n, rfl⟩
theorem isTup_of {h : Heap} {a : Addr} {vs : List Value} {n : Nat} (e : h.get? a = some ({ cls := .type "tuple", data := .seq vs.toArray n } : Obj)) : IsTup h a vs.toArray := ⟨_, e, rfl, n, rfl⟩

/-- a new object -/
theorem Post.new {D : Cb} {d : PV} {o : Obj} {t : Nat} (gi : g.In s.heap) (hf : o.isFreed = false) (r : Rep prog w (g.add s.heap.objs.size o) (.ref s.heap.objs.size) d) (q : D d) :
    Post prog w g μ s D (.ref s.heap.objs.size) { s with heap := s.heap.push o, toks := t } :=
  ⟨_, d, .add gi (.mk' fun _ _ e => Heap.get?_push_of_some _ e) (get?_size _) (Heap.get?_push_size _ hf), .fr r, q⟩
theorem RepAll.added {vs : List Value} {ds : List PV} {o : Obj} (gi : g.In s.heap) (r : RepAll prog w g vs ds) : RepAll prog w (g.add s.heap.objs.size o) vs ds := r.up (Zone.le_add (Zone.none_of gi (get?_size _)))
theorem Post.newList {D : Cb} {vs : List Value} {ds : List PV} {n t : Nat} (gi : g.In s.heap) (r : RepAll prog w g vs ds) (q : D (.list ds)) :
    Post prog w g μ s D (.ref s.heap.objs.size) { s with heap := s.heap.push { cls := .type "list", data := .seq vs.toArray n }, toks := t } :=
  .new gi rfl (.list Zone.add_self (r.added gi)) q
theorem Post.newTup {D : Cb} {vs : List Value} {ds : List PV} {n t : Nat} (gi : g.In s.heap) (r : RepAll prog w g vs ds) (q : D (.tup ds)) :
    Post prog w g μ s D (.ref s.heap.objs.size) { s with heap := s.heap.push { cls := .type "tuple", data := .seq vs.toArray n }, toks := t } :=
  .new gi rfl (.tup Zone.add_self (r.added gi)) q

theorem sizeLine_le {n : Nat} (h : n ≤ 2000000) : n ≤ sizeLine := by rw [sizeLine_eq]; omega

theorem bits_sml {i : Int} (h : sml i) : Builtin.Int.intBits i ≤ 64 := by
  unfold sml at h
  unfold Builtin.Int.intBits
  split
  · omega
  · rename_i hne
    have hn : i.natAbs ≠ 0 := by simpa using hne
    have : i.natAbs.log2 < 61 := (Nat.log2_lt hn).mpr (by omega)
    omega

theorem bin_ok {op : BinO} {x y : Value} {a b : PV} {D : Cb} (gi : g.In s.heap) (hx : RepM prog w g μ x a) (hy : RepM prog w g μ y b) (h : binW op a b D) :
    wpAny (model prog w) A (binaryOp (opOf op) x y) (Post prog w g μ s D) E s := by
  cases op with
  | add =>
    cases a with
    | int i => cases b with
      | int j =>
        obtain ⟨t, rfl⟩ := hx.isInt
        obtain ⟨u, rfl⟩ := hy.isInt
        exact wpAny_add_int (.val gi (.int _ _) h)
      | _ => exact False.elim h
    | str i => cases b with
      | str j =>
        obtain ⟨t, rfl⟩ := hx.isStr
        obtain ⟨u, rfl⟩ := hy.isStr
        have h : i.length + j.length ≤ 1000000 ∧ D (.str (i ++ j)) := h
        exact add_str (fun t' tk => .val gi (.str _ _) h.2) (sizeLine_le (by omega))
      | _ => exact False.elim h
    | list i => cases b with
      | list j =>
        have h : i.length + j.length ≤ 1000000 ∧ D (.list (i ++ j)) := h
        obtain ⟨l, vs, n, rfl, hl, rl, el⟩ := (hx.frz trivial).isList
        obtain ⟨k, ws, m, rfl, hk, rk, ek⟩ := (hy.frz trivial).isList
        refine P.add_list (gi _ _ hl) (gi _ _ hk) ?_ (sizeLine_le (by simp only [List.size_toArray]; omega))
        have e : vs.toArray ++ ws.toArray = (vs ++ ws).toArray := by simp
        rw [e]
        exact .newList gi (rl.append rk) h.2
      | _ => exact False.elim h
    | _ => exact False.elim h
  | sub =>
    cases a with
    | int i => cases b with
      | int j =>
        obtain ⟨t, rfl⟩ := hx.isInt
        obtain ⟨u, rfl⟩ := hy.isInt
        exact PySem.P.sub_int (.val gi (.int _ _) h)
      | _ => exact False.elim h
    | _ => exact False.elim h
  | mul =>
    cases a with
    | int i => cases b with
      | int j =>
        obtain ⟨t, rfl⟩ := hx.isInt
        obtain ⟨u, rfl⟩ := hy.isInt
        refine PySem.P.mul_int (.val gi (.int _ _) h.2.2) (IntMulOk.of_left (bits_sml h.1))
      | _ => exact False.elim h
    | _ => exact False.elim h
  | fdiv =>
    cases a with
    | int i => cases b with
      | int j =>
        obtain ⟨t, rfl⟩ := hx.isInt
        obtain ⟨u, rfl⟩ := hy.isInt
        exact floordiv_int h.1 (.val gi (.int _ _) h.2.2) (.inl (PyProof.noPylong_small h.2.1))
      | _ => exact False.elim h
    | _ => exact False.elim h
  | mod =>
    cases a with
    | int i => cases b with
      | int j =>
        obtain ⟨t, rfl⟩ := hx.isInt
        obtain ⟨u, rfl⟩ := hy.isInt
        exact mod_int' h.1 (.val gi (.int _ _) h.2)
      | _ => exact False.elim h
    | _ => exact False.elim h
  | pow =>
    cases a with
    | int i => cases b with
      | int j =>
        obtain ⟨t, rfl⟩ := hx.isInt
        obtain ⟨u, rfl⟩ := hy.isInt
        obtain ⟨rfl, h0, h1, h2⟩ := h
        refine pow_int h0 ?_ (.val gi (.int _ _) h2)
        have e : Builtin.Int.intBits 10 = 4 := by decide +kernel
        rw [e]
        omega
      | _ => exact False.elim h
    | _ => exact False.elim h

theorem truth_ok {v : Value} {d : PV} {T : Bool → Prop} {Q : Bool → Shared → Prop} (hv : RepM prog w g μ v d) (h : truth d T) (k : ∀ b, T b → Q b s) : wpAny (model prog w) A (truthy v) Q E s := by
  cases d with
  | bool b => obtain rfl := hv.isBool; exact wpAny_truthy_bool (k b h)
  | _ => exact h.elim
end
end Cut20
namespace Cut20

/-! Comparisons. -/

mutual
noncomputable def toPy : PV → PyData
  | .none => .none
  | .bool b => .bool b
  | .int i => .int i
  | .str x => .str x
  | .tup ds => .tuple (toPys ds)
  | .list ds => .list (toPys ds)
  | .cur ds => .list (toPys ds)
  | .rng _ _ _ => .none
  | .dict _ => .none
noncomputable def toPys : List PV → List PyData
  | [] => []
  | d :: ds => toPy d :: toPys ds
end

section
variable {prog : Program} {w : World} {g : Zone} {h : Heap}
mutual
theorem reads_of (gi : g.In h) : ∀ {v : Value} {d : PV} (n : Nat), Rep prog w g v d → eqOk n d = true → ∃ as, Reads h v (toPy d) as
  | _, _, _, .none, _ => ⟨_, Reads.none⟩
  | _, _, _, .bool b, _ => ⟨_, Reads.bool b⟩
  | _, _, _, .int i t, _ => ⟨_, Reads.int i t⟩
  | _, _, _, .str x t, _ => ⟨_, Reads.str x t⟩
  | _, _, 0, .tup _ _, hk => by simp [eqOk] at hk
  | _, _, 0, .list _ _, hk => by simp [eqOk] at hk
  | _, _, n + 1, .tup hm r, hk => by
    obtain ⟨as, q⟩ := readsAll_of gi n r (by simpa [eqOk] using hk)
    rw [toPy]
    exact ⟨as, reads_tuple_at (gi _ _ hm) rfl rfl (by simpa using q)⟩
  | _, _, n + 1, .list hm r, hk => by
    obtain ⟨as, q⟩ := readsAll_of gi n r (by simpa [eqOk] using hk)
    rw [toPy]
    exact ⟨_, reads_list_at (gi _ _ hm) rfl rfl (by simpa using q)⟩
  | _, _, n, .rng _ _ _, hk => by cases n <;> simp [eqOk] at hk
  | _, _, n, .dict _ _ _ _, hk => by cases n <;> simp [eqOk] at hk
theorem readsAll_of (gi : g.In h) : ∀ {vs : List Value} {ds : List PV} (n : Nat), RepAll prog w g vs ds → (∀ d ∈ ds, eqOk n d = true) → ∃ as, ReadsAll h vs (toPys ds) as
  | _, _, _, .nil, _ => ⟨_, ReadsAll.nil⟩
  | _, _, n, .cons hd r, hk => by
    obtain ⟨as, q⟩ := reads_of gi n hd (hk _ (.head _))
    obtain ⟨bs, p⟩ := readsAll_of gi n r fun d hm => hk d (.tail _ hm)
    rw [toPys]
    exact ⟨_, ReadsAll.cons q p⟩
end
end

theorem lay_of : ∀ (n : Nat) (d : PV), eqOk n d = true → (toPy d).canLay0 = true ∧ (toPy d).depth ≤ n := by
  have all : ∀ (n : Nat), (∀ d, eqOk n d = true → (toPy d).canLay0 = true ∧ (toPy d).depth ≤ n) → ∀ ds : List PV, (∀ d ∈ ds, eqOk n d = true) → PyData.canLayAll0 (toPys ds) = true ∧ PyData.depthAll (toPys ds) ≤ n := by
    intro n ih ds
    induction ds with
    | nil => intro _; simp [toPys, PyData.canLayAll0, PyData.depthAll]
    | cons d ds hi =>
      intro h
      have h1 := ih d (h d (.head _))
      have h2 := hi fun e he => h e (.tail _ he)
      simp only [toPys, PyData.canLayAll0, PyData.depthAll, h1.1, h2.1, Bool.and_self, true_and]
      have a1 := h1.2
      have a2 := h2.2
      omega
  intro n
  induction n with
  | zero =>
    intro d h
    cases d <;> simp_all [eqOk, toPy, PyData.canLay0, PyData.depth]
  | succ n ih =>
    intro d h
    cases d with
    | none => simp [toPy, PyData.canLay0, PyData.depth]
    | bool b => simp [eqOk] at h
    | int i => simp [toPy, PyData.canLay0, PyData.depth]
    | str x => simp [eqOk] at h; simp [toPy, PyData.canLay0, PyData.depth, h]
    | rng a b c => simp [eqOk] at h
    | dict es => simp [eqOk] at h
    | tup ds =>
      have q := all n ih ds (by simpa [eqOk] using h)
      have q2 := q.2
      simp only [toPy, PyData.canLay0, PyData.depth, q.1, true_and]
      omega
    | list ds =>
      have q := all n ih ds (by simpa [eqOk] using h)
      have q2 := q.2
      simp only [toPy, PyData.canLay0, PyData.depth, q.1, true_and]
      omega
    | cur ds =>
      have q := all n ih ds (by simpa [eqOk] using h)
      have q2 := q.2
      simp only [toPy, PyData.canLay0, PyData.depth, q.1, true_and]
      omega
theorem layAll_of {ds : List PV} (n : Nat) (h : ∀ d ∈ ds, eqOk n d = true) : PyData.canLayAll0 (toPys ds) = true ∧ PyData.depthAll (toPys ds) ≤ n + 1 := by
  have l := lay_of (n + 1) (.list ds) (by simpa [eqOk] using h)
  simp only [toPy, PyData.canLay0, PyData.depth] at l
  have l2 := l.2
  exact ⟨l.1, by omega⟩

/-- without a list that turns -/
noncomputable def noCur : Nat → PV → Bool
  | n + 1, .tup ds => ds.all (noCur n)
  | n + 1, .list ds => ds.all (noCur n)
  | _, .cur _ => false
  | _, _ => true

section
variable {prog : Program} {w : World} {g : Zone}
mutual
theorem Rep.noCur : ∀ {v : Value} {d : PV} (n : Nat), Rep prog w g v d → Cut20.noCur n d = true
  | _, _, n, .none => by cases n <;> rfl
  | _, _, n, .bool b => by cases n <;> rfl
  | _, _, n, .int i t => by cases n <;> rfl
  | _, _, n, .str x t => by cases n <;> rfl
  | _, _, 0, .tup _ _ => rfl
  | _, _, 0, .list _ _ => rfl
  | _, _, n + 1, .tup _ r => by rw [Cut20.noCur]; exact RepAll.noCur n r
  | _, _, n + 1, .list _ r => by rw [Cut20.noCur]; exact RepAll.noCur n r
  | _, _, n, .rng _ _ _ => by cases n <;> rfl
  | _, _, n, .dict _ _ _ _ => by cases n <;> rfl
theorem RepAll.noCur : ∀ {vs : List Value} {ds : List PV} (n : Nat), RepAll prog w g vs ds → ds.all (Cut20.noCur n) = true
  | _, _, _, .nil => rfl
  | _, _, n, .cons hd r => by rw [List.all_cons, Rep.noCur n hd, RepAll.noCur n r]; rfl
end
end

theorem eqv_of : ∀ (n : Nat) (d e : PV) (k : Nat), eqOk n d = true → eqOk k e = true → Cut20.noCur n d = true → Cut20.noCur k e = true → (PyData.eqv (toPy d) (toPy e) = true ↔ d = e) := by
  have all : ∀ (n : Nat), (∀ d e k, eqOk n d = true → eqOk k e = true → Cut20.noCur n d = true → Cut20.noCur k e = true → (PyData.eqv (toPy d) (toPy e) = true ↔ d = e)) →
      ∀ (k : Nat) (ds es : List PV), (∀ d ∈ ds, eqOk n d = true) → (∀ d ∈ es, eqOk k d = true) → (∀ d ∈ ds, Cut20.noCur n d = true) → (∀ d ∈ es, Cut20.noCur k d = true) →
      (PyData.eqvAll (toPys ds) (toPys es) = true ↔ ds = es) := by
    intro n ih k ds
    induction ds with
    | nil => intro es _ _ _ _; cases es <;> simp [toPys, PyData.eqvAll]
    | cons d ds hi =>
      intro es h1 h2 h3 h4
      cases es with
      | nil => simp [toPys, PyData.eqvAll]
      | cons e es =>
        have q1 := ih d e k (h1 d (.head _)) (h2 e (.head _)) (h3 d (.head _)) (h4 e (.head _))
        have q2 := hi es (fun x hx => h1 x (.tail _ hx)) (fun x hx => h2 x (.tail _ hx)) (fun x hx => h3 x (.tail _ hx)) fun x hx => h4 x (.tail _ hx)
        simp only [toPys, PyData.eqvAll, Bool.and_eq_true, q1, q2, List.cons.injEq]
  have leaf : ∀ (d e : PV) (k : Nat), (match d with | .none => True | .int _ => True | .str _ => True | _ => False) → eqOk k e = true → Cut20.noCur k e = true → (PyData.eqv (toPy d) (toPy e) = true ↔ d = e) := by
    intro d e k hd h2 h4
    cases d with
    | none => cases e <;> first | (simp [toPy, PyData.eqv]; done) | (exfalso; revert h2; cases k <;> simp [eqOk]; done) | (exfalso; revert h4; cases k <;> simp [Cut20.noCur]; done)
    | int i => cases e <;> first | (simp [toPy, PyData.eqv]; done) | (exfalso; revert h2; cases k <;> simp [eqOk]; done) | (exfalso; revert h4; cases k <;> simp [Cut20.noCur]; done)
    | str x => cases e <;> first | (simp [toPy, PyData.eqv]; done) | (exfalso; revert h2; cases k <;> simp [eqOk]; done) | (exfalso; revert h4; cases k <;> simp [Cut20.noCur]; done)
    | _ => exact hd.elim
  intro n
  induction n with
  | zero =>
    intro d e k h1 h2 h3 h4
    cases d with
    | none => exact leaf _ _ k trivial h2 h4
    | int i => exact leaf _ _ k trivial h2 h4
    | str x => exact leaf _ _ k trivial h2 h4
    | _ => exact no_tt h1
  | succ n ih =>
    intro d e k h1 h2 h3 h4
    cases d with
    | tup ds =>
      cases e with
      | tup es =>
        cases k with
        | zero => exact no_tt h2
        | succ k =>
          simp only [toPy, PyData.eqv, PV.tup.injEq]
          exact all n ih k ds es (by simpa [eqOk] using h1) (by simpa [eqOk] using h2) (by simpa [Cut20.noCur] using h3) (by simpa [Cut20.noCur] using h4)
      | _ => first | (simp [toPy, PyData.eqv]; done) | (exfalso; revert h2; cases k <;> simp [eqOk]; done) | (exfalso; revert h4; cases k <;> simp [Cut20.noCur]; done)
    | list ds =>
      cases e with
      | list es =>
        cases k with
        | zero => exact no_tt h2
        | succ k =>
          simp only [toPy, PyData.eqv, PV.list.injEq]
          exact all n ih k ds es (by simpa [eqOk] using h1) (by simpa [eqOk] using h2) (by simpa [Cut20.noCur] using h3) (by simpa [Cut20.noCur] using h4)
      | _ => first | (simp [toPy, PyData.eqv]; done) | (exfalso; revert h2; cases k <;> simp [eqOk]; done) | (exfalso; revert h4; cases k <;> simp [Cut20.noCur]; done)
    | none => exact leaf _ _ k trivial h2 h4
    | int i => exact leaf _ _ k trivial h2 h4
    | str x => exact leaf _ _ k trivial h2 h4
    | cur es => exact no_tt h3
    | _ => exact no_tt h1
theorem any_eqv : ∀ (ds : List PV) (d : PV), (∀ e ∈ ds, eqOk 7 e = true) → eqOk 8 d = true → (∀ e ∈ ds, Cut20.noCur 7 e = true) → Cut20.noCur 8 d = true → ((toPys ds).any (fun y => PyData.eqv y (toPy d)) = true ↔ d ∈ ds)
  | [], d, _, _, _, _ => by simp [toPys]
  | e :: ds, d, h, hd, h3, h4 => by
    have q := any_eqv ds d (fun x hx => h x (.tail _ hx)) hd (fun x hx => h3 x (.tail _ hx)) h4
    have q1 := eqv_of 7 e d 8 (h e (.head _)) hd (h3 e (.head _)) h4
    simp only [toPys, List.any_cons, Bool.or_eq_true, q, q1, List.mem_cons]
    constructor
    · rintro (x | x)
      · exact .inl x.symm
      · exact .inr x
    · rintro (x | x)
      · exact .inl x.symm
      · exact .inr x
end Cut20
namespace Cut20

section
variable {prog : Program} {w : World} {g μ : Zone} {s : Shared} {A : Around} {E : Value → Shared → Prop}

open Classical in
theorem both_dec {p : Prop} {Q : Cb} (h : both p Q) {b : Bool} (e : b = true ↔ p) : Q (.bool b) := by
  cases b with
  | true => exact h.1 (e.mp rfl)
  | false => exact h.2 fun hp => by have := e.mpr hp; cases this

theorem eq_list_ok {x y : Value} {a b : List PV} {Q : Value → Shared → Prop} (gi : g.In s.heap) (hu : A.units + 64 < cLine) (hx : Rep prog w g x (.list a)) (hy : Rep prog w g y (.list b))
    (ha : eqOk 8 (.list a) = true) (hb : eqOk 8 (.list b) = true) (h : ∀ t : Bool, (t = true ↔ a = b) → Q (.bool t) s) : wpAny (model prog w) A (compareOp .Eq x y) Q E s := by
  obtain ⟨as, ra⟩ := reads_of gi 8 hx ha
  obtain ⟨bs, rb⟩ := reads_of gi 8 hy hb
  have la := lay_of 8 _ ha
  have lb := lay_of 8 _ hb
  have q := eqv_of 8 _ _ 8 ha hb (hx.noCur 8) (hy.noCur 8)
  rw [PV.list.injEq] at q
  refine eq_dataH ra rb ?_ ?_ hu (h _ q)
  · unfold SeqAt.shaped; rw [la.1, Bool.true_and]; exact decide_eq_true (Nat.le_trans la.2 (by decide))
  · unfold SeqAt.shaped; rw [lb.1, Bool.true_and]; exact decide_eq_true (Nat.le_trans lb.2 (by decide))
theorem ne_list_ok {x y : Value} {a b : List PV} {Q : Value → Shared → Prop} (gi : g.In s.heap) (hu : A.units + 64 < cLine) (hx : Rep prog w g x (.list a)) (hy : Rep prog w g y (.list b))
    (ha : eqOk 8 (.list a) = true) (hb : eqOk 8 (.list b) = true) (h : ∀ t : Bool, (t = true ↔ a ≠ b) → Q (.bool t) s) : wpAny (model prog w) A (compareOp .NotEq x y) Q E s := by
  obtain ⟨as, ra⟩ := reads_of gi 8 hx ha
  obtain ⟨bs, rb⟩ := reads_of gi 8 hy hb
  have la := lay_of 8 _ ha
  have lb := lay_of 8 _ hb
  have q := eqv_of 8 _ _ 8 ha hb (hx.noCur 8) (hy.noCur 8)
  rw [PV.list.injEq] at q
  refine ne_dataH ra rb ?_ ?_ hu (h _ ?_)
  · unfold SeqAt.shaped; rw [la.1, Bool.true_and]; exact decide_eq_true (Nat.le_trans la.2 (by decide))
  · unfold SeqAt.shaped; rw [lb.1, Bool.true_and]; exact decide_eq_true (Nat.le_trans lb.2 (by decide))
  · rw [Bool.not_eq_true', ← Bool.not_eq_true, q]

theorem in_seq {x y : Value} {d c : PV} {ds : List PV} (gi : g.In s.heap) (mi : μ.In s.heap) (hx : RepM prog w g μ x d) (hy : RepM prog w g μ y c) (e : c.seq = some ds) (hd : eqOk 8 d = true) (hl : eqOk 8 (.list ds) = true) (hc : d.fz) :
    ∃ a vs n as bs, y = .ref a ∧ s.heap.get? a = some ({ cls := .type "list", data := .seq (vs : List Value).toArray n } : Obj) ∧ ReadsAll s.heap vs (toPys ds) as ∧ Reads s.heap x (toPy d) bs ∧
      PyData.canLayAll0 (toPys ds) = true ∧ (toPy d).canLay0 = true ∧ min (PyData.depthAll (toPys ds)) (toPy d).depth ≤ 8 ∧ ((toPys ds).any (fun y => PyData.eqv y (toPy d)) = true ↔ d ∈ ds) := by
  obtain ⟨a, vs, n, rfl, p, q, l⟩ := hy.seq e gi mi
  have hl' : ∀ e ∈ ds, eqOk 7 e = true := by simpa [eqOk] using hl
  obtain ⟨as, ra⟩ := readsAll_of gi 7 q hl'
  obtain ⟨bs, rb⟩ := reads_of gi 8 (hx.frz hc) hd
  have l1 := layAll_of 7 hl'
  have l2 := lay_of 8 _ hd
  have l2' := l2.2
  exact ⟨a, vs, n, as, bs, rfl, p, ra, rb, l1.1, l2.1, Nat.le_trans (Nat.min_le_right _ _) l2', any_eqv ds d hl' hd (by simpa using q.noCur 7) ((hx.frz hc).noCur 8)⟩
theorem in_ok {x y : Value} {d c : PV} {ds : List PV} {Q : Value → Shared → Prop} (gi : g.In s.heap) (mi : μ.In s.heap) (hu : A.units + 64 < cLine) (hx : RepM prog w g μ x d) (hy : RepM prog w g μ y c) (e : c.seq = some ds) (hd : eqOk 8 d = true) (hl : eqOk 8 (.list ds) = true) (hc : d.fz)
    (h : ∀ t : Bool, (t = true ↔ d ∈ ds) → Q (.bool t) s) : wpAny (model prog w) A (compareOp .In x y) Q E s := by
  obtain ⟨a, vs, n, as, bs, rfl, p, ra, rb, l1, l2, l3, q⟩ := in_seq gi mi hx hy e hd hl hc
  exact SeqAt.in_list_reads (reads_list_at p rfl rfl (by simpa using ra)) rb l1 l2 (by omega) (h _ q)
theorem notIn_ok {x y : Value} {d c : PV} {ds : List PV} {Q : Value → Shared → Prop} (gi : g.In s.heap) (mi : μ.In s.heap) (hu : A.units + 64 < cLine) (hx : RepM prog w g μ x d) (hy : RepM prog w g μ y c) (e : c.seq = some ds) (hd : eqOk 8 d = true) (hl : eqOk 8 (.list ds) = true) (hc : d.fz)
    (h : ∀ t : Bool, (t = true ↔ ¬ d ∈ ds) → Q (.bool t) s) : wpAny (model prog w) A (compareOp .NotIn x y) Q E s := by
  obtain ⟨a, vs, n, as, bs, rfl, p, ra, rb, l1, l2, l3, q⟩ := in_seq gi mi hx hy e hd hl hc
  exact SeqAt.notIn_list_reads (reads_list_at p rfl rfl (by simpa using ra)) rb l1 l2 (by omega) (h _ (by rw [Bool.not_eq_true', ← Bool.not_eq_true, q]))
theorem inTup_ok {x y : Value} {d : PV} {ds : List PV} {Q : Value → Shared → Prop} (gi : g.In s.heap) (hu : A.units + 64 < cLine) (hx : RepM prog w g μ x d) (hy : RepM prog w g μ y (.tup ds)) (hd : eqOk 8 d = true) (hl : eqOk 8 (.list ds) = true) (hc : d.fz)
    (h : ∀ t : Bool, (t = true ↔ d ∈ ds) → Q (.bool t) s) : wpAny (model prog w) A (compareOp .In x y) Q E s := by
  obtain ⟨a, vs, n, rfl, p, r, l⟩ := (hy.frz trivial).isTup
  have hl' : ∀ e ∈ ds, eqOk 7 e = true := by simpa [eqOk] using hl
  obtain ⟨as, ra⟩ := readsAll_of gi 7 r hl'
  obtain ⟨bs, rb⟩ := reads_of gi 8 (hx.frz hc) hd
  have l1 := layAll_of 7 hl'
  have l2 := lay_of 8 _ hd
  have l2' := l2.2
  refine SeqAt.in_tuple_reads (reads_tuple_at (gi _ _ p) rfl rfl (by simpa using ra)) rb l1.1 l2.1 ?_ (h _ (any_eqv ds d hl' hd (by simpa using r.noCur 7) ((hx.frz hc).noCur 8)))
  have := Nat.min_le_right (PyData.depthAll (toPys ds)) (toPy d).depth
  omega

theorem cmp_ok {op : CmpO} {x y : Value} {a b : PV} {D : Cb} (gi : g.In s.heap) (mi : μ.In s.heap) (hu : A.units + 64 < cLine) (hx : RepM prog w g μ x a) (hy : RepM prog w g μ y b) (h : cmpW op a b D) :
    wpAny (model prog w) A (compareOp (coOf op) x y) (Post prog w g μ s D) E s := by
  cases op with
  | lt =>
    cases a with
    | int i => cases b with
      | int j =>
        obtain ⟨t, rfl⟩ := hx.isInt
        obtain ⟨u, rfl⟩ := hy.isInt
        exact PySem.P.lt_int (.here gi (.bool _) (both_dec h (by simp)))
      | _ => exact False.elim h
    | _ => exact False.elim h
  | le =>
    cases a with
    | int i => cases b with
      | int j =>
        obtain ⟨t, rfl⟩ := hx.isInt
        obtain ⟨u, rfl⟩ := hy.isInt
        exact PySem.P.le_int (.here gi (.bool _) (both_dec h (by simp)))
      | _ => exact False.elim h
    | _ => exact False.elim h
  | gt =>
    cases a with
    | int i => cases b with
      | int j =>
        obtain ⟨t, rfl⟩ := hx.isInt
        obtain ⟨u, rfl⟩ := hy.isInt
        exact PySem.P.gt_int (.here gi (.bool _) (both_dec h (by simp)))
      | _ => exact False.elim h
    | _ => exact False.elim h
  | ge =>
    cases a with
    | int i => cases b with
      | int j =>
        obtain ⟨t, rfl⟩ := hx.isInt
        obtain ⟨u, rfl⟩ := hy.isInt
        exact PySem.P.ge_int (.here gi (.bool _) (both_dec h (by simp)))
      | _ => exact False.elim h
    | _ => exact False.elim h
  | eq =>
    cases a with
    | int i => cases b with
      | int j =>
        obtain ⟨t, rfl⟩ := hx.isInt
        obtain ⟨u, rfl⟩ := hy.isInt
        exact PySem.P.eq_int (.here gi (.bool _) (both_dec h (by simp)))
      | _ => exact False.elim h
    | str x' => cases b with
      | str y' =>
        obtain ⟨t, rfl⟩ := hx.isStr
        obtain ⟨u, rfl⟩ := hy.isStr
        exact PyProof.Rows.eq_str (.here gi (.bool _) (both_dec h (by simp)))
      | _ => exact False.elim h
    | list ds => cases b with
      | list es => exact eq_list_ok gi hu (hx.frz trivial) (hy.frz trivial) h.1 h.2.1 fun t e => .here gi (.bool _) (both_dec h.2.2 e)
      | _ => exact False.elim h
    | _ => exact False.elim h
  | ne =>
    cases a with
    | int i => cases b with
      | int j =>
        obtain ⟨t, rfl⟩ := hx.isInt
        obtain ⟨u, rfl⟩ := hy.isInt
        exact PySem.P.ne_int (.here gi (.bool _) (both_dec h (by simp)))
      | _ => exact False.elim h
    | str x' => cases b with
      | str y' =>
        obtain ⟨t, rfl⟩ := hx.isStr
        obtain ⟨u, rfl⟩ := hy.isStr
        exact PyProof.Rows.ne_str (.here gi (.bool _) (both_dec h (by simp)))
      | _ => exact False.elim h
    | list ds => cases b with
      | list es => exact ne_list_ok gi hu (hx.frz trivial) (hy.frz trivial) h.1 h.2.1 fun t e => .here gi (.bool _) (both_dec h.2.2 e)
      | _ => exact False.elim h
    | _ => exact False.elim h
  | isin =>
    cases b with
    | str y' => cases a with
      | str x' =>
        obtain ⟨t, rfl⟩ := hx.isStr
        obtain ⟨u, rfl⟩ := hy.isStr
        exact PyProof.Rows.in_str (.here gi (.bool _) h)
      | _ => exact False.elim h
    | list ds =>
      have h : a.fz ∧ eqOk 8 a = true ∧ eqOk 8 (.list ds) = true ∧ both (a ∈ ds) D := by cases a <;> exact h
      exact in_ok gi mi hu hx hy rfl h.2.1 h.2.2.1 h.1 fun t e => .here gi (.bool _) (both_dec h.2.2.2 e)
    | cur ds =>
      have h : a.fz ∧ eqOk 8 a = true ∧ eqOk 8 (.list ds) = true ∧ both (a ∈ ds) D := by cases a <;> exact h
      exact in_ok gi mi hu hx hy rfl h.2.1 h.2.2.1 h.1 fun t e => .here gi (.bool _) (both_dec h.2.2.2 e)
    | tup ds =>
      have h : a.fz ∧ eqOk 8 a = true ∧ eqOk 8 (.list ds) = true ∧ both (a ∈ ds) D := by cases a <;> exact h
      exact inTup_ok gi hu hx hy h.2.1 h.2.2.1 h.1 fun t e => .here gi (.bool _) (both_dec h.2.2.2 e)
    | _ => exact False.elim (by cases a <;> exact h)
  | notin =>
    cases b with
    | list ds =>
      have h : a.fz ∧ eqOk 8 a = true ∧ eqOk 8 (.list ds) = true ∧ both (¬ a ∈ ds) D := by cases a <;> exact h
      exact notIn_ok gi mi hu hx hy rfl h.2.1 h.2.2.1 h.1 fun t e => .here gi (.bool _) (both_dec h.2.2.2 e)
    | cur ds =>
      have h : a.fz ∧ eqOk 8 a = true ∧ eqOk 8 (.list ds) = true ∧ both (¬ a ∈ ds) D := by cases a <;> exact h
      exact notIn_ok gi mi hu hx hy rfl h.2.1 h.2.2.1 h.1 fun t e => .here gi (.bool _) (both_dec h.2.2.2 e)
    | _ => exact False.elim (by cases a <;> exact h)
  | isnone =>
    cases a with
    | dict es => cases b with
      | none =>
        cases hy with
        | fr hy =>
          cases hy
          cases hx with
          | fr hx =>
            cases hx
            exact is_none (.here gi (.bool _) h)
      | _ => exact False.elim h
    | _ => exact False.elim h
end
end Cut20
namespace Cut20

/-! Items, slices, lengths. -/
section
variable {prog : Program} {w : World} {g μ : Zone} {s : Shared} {A : Around} {E : Value → Shared → Prop} {env : Env}

theorem sub_any {value slice : Expr} {pos : Pos} {Q : Value → Shared → Prop}
    (h : wpAny (model prog w) A (eval value env) (fun o s₁ => wpAny (model prog w) A (eval slice env) (fun i s₂ => ItemOn (model prog w) A E o i Q s₂) E s₁) E s) :
    wpAny (model prog w) A (eval (.Subscript value slice pos) env) Q E s := by
  refine Subscript_ (wpAny_mono h (fun o s₁ h₁ => wpAny_mono h₁ (fun i s₂ h₂ => ?_) fun _ _ x => x) fun _ _ x => x)
  obtain ⟨T, id, hl, hT, hg⟩ := h₂
  unfold subscriptTail
  have fin : ∀ vs, wpAny (model prog w) A (operate vs (getItem o i)) (fun r s₃ => wpAny (model prog w) A (letTemporaryGo value o r >>= fun _ => pure r) Q E s₃) E s₂ := fun vs =>
    wpAny_operating (wpAny_mono hg (fun r s₃ h₃ => wpAny_bind (wpAny_letTemporaryGo (wpAny_pure h₃))) fun _ _ x => x)
  refine wpAny_bind ?_
  rw [getitemInPython_of_ne hT.not_modules]
  refine wpAny_bind (wpAny_specialOf hT hl ?_)
  refine wpAny_pure (wpAny_bind ?_)
  unfold subscripted
  split
  · exact fin _
  · rename_i h9; cases h9
  · exact fin _

theorem list_item {x y : Value} {a b : PV} {D : Cb} (gi : g.In s.heap) (mi : μ.In s.heap) (hx : RepM prog w g μ x a) (hy : RepM prog w g μ y b) (h : idxW a b D) :
    ItemOn (model prog w) A E x y (Post prog w g μ s D) s := by
  unfold idxW at h
  split at h
  · obtain ⟨u, rfl⟩ := hy.isInt
    obtain ⟨h0, h1, d, hd, q⟩ := h
    obtain ⟨l, vs, n, rfl, p, r, e⟩ := hx.seq rfl gi mi
    obtain ⟨v, hv, rv⟩ := r.get hd
    exact ⟨"list", _, list_getitem_lookup, (isList_of p).typeIs, wpAny_getItem_list (isList_of p) h0 (by omega) (by simpa using hv) (.here gi rv q)⟩
  · obtain ⟨u, rfl⟩ := hy.isInt
    obtain ⟨h0, h1, d, hd, q⟩ := h
    obtain ⟨l, vs, n, rfl, p, r, e⟩ := hx.seq rfl gi mi
    obtain ⟨v, hv, rv⟩ := r.get hd
    exact ⟨"list", _, list_getitem_lookup, (isList_of p).typeIs, wpAny_getItem_list (isList_of p) h0 (by omega) (by simpa using hv) (.here gi rv q)⟩
  · rename_i ds k
    obtain ⟨u, rfl⟩ := hy.isInt
    obtain ⟨h0, h1, d, hd, q⟩ := h
    obtain ⟨l, vs, n, rfl, p, r, e⟩ := (hx.frz trivial).isTup
    obtain ⟨v, hv, rv⟩ := r.get hd
    have hlt : k.toNat < vs.length := (List.getElem?_eq_some_iff.mp hv).1
    refine ⟨"tuple", _, slot_tuple_getitem.lookup, (isTup_of (gi _ _ p)).typeIs, getItem_tuple (isTup_of (gi _ _ p)) (by omega) (by omega) (j := k.toNat) (seqIndex_of h0 ?_) (by simpa using hv) (.here gi rv q)⟩
    simp only [List.size_toArray]
    omega
  · rename_i x k
    obtain ⟨u, rfl⟩ := hy.isInt
    obtain ⟨t, rfl⟩ := hx.isStr
    obtain ⟨h0, h1, c, hc, q⟩ := h
    have hlt : k.toNat < x.cps.size := (Array.getElem?_eq_some_iff.mp hc).1
    refine ⟨"str", _, F.slot_str_getitem.lookup, typeIs_str _ _ _, PyProof.Rows.getItem_str (c := c) (by simp; omega) ?_ (.val gi (.str _ _) q)⟩
    rw [seqIndex_of h0 (by show k < x.length; unfold Str.length; omega)]
    exact hc
  · exact h.elim

theorem len_ok {x : Value} {a : PV} {D : Cb} (gi : g.In s.heap) (mi : μ.In s.heap) (hx : RepM prog w g μ x a) (h : lenW a D) : wpAny (model prog w) A (call (.builtin "len") [x]) (Post prog w g μ s D) E s := by
  unfold lenW at h
  split at h
  · obtain ⟨t, rfl⟩ := hx.isStr
    exact PyProof.Rows.len_str (by omega) (.val gi (.int _ _) h.2)
  · obtain ⟨l, vs, n, rfl, p, r, e⟩ := hx.seq rfl gi mi
    refine Calls.call_len_list (isList_of p) (by simp; omega) ?_
    simp only [List.size_toArray, e]
    exact .val gi (.int _ _) h.2
  · obtain ⟨l, vs, n, rfl, p, r, e⟩ := hx.seq rfl gi mi
    refine Calls.call_len_list (isList_of p) (by simp; omega) ?_
    simp only [List.size_toArray, e]
    exact .val gi (.int _ _) h.2
  · exact h.elim

/-- an expression within a slice -/
theorem slice2_ok {x y z : Value} {a b c : PV} {D : Cb} (gi : g.In s.heap) (hx : RepM prog w g μ x a) (hy : RepM prog w g μ y b) (hz : RepM prog w g μ z c) (h : sliceW a b c D) :
    ItemOn (model prog w) A E x (.ref s.heap.objs.size) (Post prog w g μ s D) { s with heap := s.heap.push { cls := .type "slice", data := .fields #[y, z, .none] } } := by
  unfold sliceW at h
  split at h
  · obtain ⟨t, rfl⟩ := hx.isStr
    obtain ⟨u, rfl⟩ := hy.isInt
    obtain ⟨u', rfl⟩ := hz.isInt
    exact SBH.sliceItem_ss (P := Ext s.heap) (fun h o p b q e => Heap.get?_push_of_some _ (p b q e)) (fun _ _ e => e) (fun h' t' k p => .keep gi (.mk' p) (.str _ _) h.2) (sizeLine_le (by omega))
  · exact h.elim
theorem sliceTo_ok {x z : Value} {a c : PV} {D : Cb} (gi : g.In s.heap) (hx : RepM prog w g μ x a) (hz : RepM prog w g μ z c) (h : sliceToW a c D) :
    ItemOn (model prog w) A E x (.ref s.heap.objs.size) (Post prog w g μ s D) { s with heap := s.heap.push { cls := .type "slice", data := .fields #[.none, z, .none] } } := by
  unfold sliceToW at h
  split at h
  · obtain ⟨t, rfl⟩ := hx.isStr
    obtain ⟨u', rfl⟩ := hz.isInt
    exact SBH.sliceItem_ns (P := Ext s.heap) (fun h o p b q e => Heap.get?_push_of_some _ (p b q e)) (fun _ _ e => e) (fun h' t' k p => .keep gi (.mk' p) (.str _ _) h.2) (sizeLine_le (by omega))
  · rename_i ds b
    obtain ⟨u', rfl⟩ := hz.isInt
    obtain ⟨hl, h0, q⟩ := h
    obtain ⟨l, vs, n, rfl, p, r, e⟩ := (hx.frz trivial).isList
    have p' : (s.heap.push { cls := .type "slice", data := .fields #[.none, .int b u', .none] }).IsList l vs.toArray := (isList_of (gi _ _ p)).push _
    refine ⟨"list", _, list_getitem_lookup, p'.typeIs, wpAny_getItem_list_slice p' (Heap.IsSliceOf.new ..) .none (.int b u') .none (by simp) ?_ (sizeLine_le (by simp; omega))⟩
    have e9 : slicePick vs.toArray none (some b) none = (vs.take b.toNat).toArray := by
      have q9 := slicePick_upto' vs.toArray b.toNat
      rw [show ((b.toNat : Nat) : Int) = b by omega] at q9
      simpa using q9
    rw [e9]
    have gi' : g.In (s.heap.push ({ cls := .type "slice", data := .fields #[.none, .int b u', .none] } : Obj)) := gi.ext fun _ _ e => Heap.get?_push_of_some _ e
    refine Post.after (s' := { s with heap := s.heap.push { cls := .type "slice", data := .fields #[.none, .int b u', .none] } }) (.of gi .push) ?_
    exact Post.newList (s := { s with heap := s.heap.push { cls := .type "slice", data := .fields #[.none, .int b u', .none] } }) gi' (r.take _) q
  · exact h.elim
theorem rev_ok {x : Value} {a : PV} {D : Cb} {t : Tok} (gi : g.In s.heap) (hx : RepM prog w g μ x a) (h : revW a D) :
    ItemOn (model prog w) A E x (.ref s.heap.objs.size) (Post prog w g μ s D) { s with heap := s.heap.push { cls := .type "slice", data := .fields #[.none, .none, .int (-1) t] } } := by
  unfold revW at h
  split at h
  · obtain ⟨l, vs, n, rfl, p, r, e⟩ := (hx.frz trivial).isList
    have p' : (s.heap.push { cls := .type "slice", data := .fields #[.none, .none, .int (-1) t] }).IsList l vs.toArray := (isList_of (gi _ _ p)).push _
    refine ⟨"list", _, list_getitem_lookup, p'.typeIs, wpAny_getItem_list_slice p' (Heap.IsSliceOf.new ..) .none .none (.int (-1) t) (by simp) ?_ (sizeLine_le (by simp; omega))⟩
    rw [krv_pick]
    have gi' : g.In (s.heap.push ({ cls := .type "slice", data := .fields #[.none, .none, .int (-1) t] } : Obj)) := gi.ext fun _ _ e => Heap.get?_push_of_some _ e
    refine Post.after (s' := { s with heap := s.heap.push { cls := .type "slice", data := .fields #[.none, .none, .int (-1) t] } }) (.of gi .push) ?_
    exact Post.newList (s := { s with heap := s.heap.push { cls := .type "slice", data := .fields #[.none, .none, .int (-1) t] } }) gi' r.reverse h.2
  · exact h.elim
theorem tab_item {mg mb : Str → Option Value} {tab : Str → Option Int} {x y : Value} {b : PV} {D : Cb} (gi : g.In s.heap) (S : Stat prog w mg mb tab s.heap) (hx : mg (Str.ofString "EXACT_TOKEN_TYPES") = some x) (hy : RepM prog w g μ y b) (h : tabAtW tab b D) :
    ItemOn (model prog w) A E x y (Post prog w g μ s D) s := by
  unfold tabAtW at h
  split at h
  · rename_i z
    obtain ⟨u, rfl⟩ := hy.isStr
    obtain ⟨a, f, e, hs, hm, ht⟩ := S.tabl
    rw [e] at hx
    cases hx
    cases q : tab z with
    | none => rw [q] at h; exact h.elim
    | some i =>
      rw [q] at h
      obtain ⟨t, hf⟩ := (ht z).2 i q
      exact ⟨"dict", _, slot_dict_getitem.lookup, hm.typeIs, wpAny_getItem_of (knd := PySem.strKind prog w) (k := z) (by simp [PySem.strKind, Value.isStrOf]) hm hf (.val gi (.int _ _) h)⟩
  · exact h.elim
theorem tab_in {mg mb : Str → Option Value} {tab : Str → Option Int} {x y : Value} {b : PV} {D : Cb} (gi : g.In s.heap) (S : Stat prog w mg mb tab s.heap) (hx : mg (Str.ofString "EXACT_TOKEN_TYPES") = some x) (hy : RepM prog w g μ y b) (h : inTabW tab b D) :
    wpAny (model prog w) A (compareOp .In y x) (Post prog w g μ s D) E s := by
  unfold inTabW at h
  split at h
  · rename_i z
    obtain ⟨u, rfl⟩ := hy.isStr
    obtain ⟨a, f, e, hs, hm, ht⟩ := S.tabl
    rw [e] at hx
    cases hx
    refine wpAny_in_of (knd := PySem.strKind prog w) (k := z) (by simp [PySem.strKind, Value.isStrOf]) hs hm (.val gi (.bool _) ?_)
    cases q : tab z with
    | none => rw [(ht z).1 q]; rw [q] at h; exact h
    | some i =>
      obtain ⟨t, hf⟩ := (ht z).2 i q
      rw [hf]; rw [q] at h; exact h
  · exact h.elim
end
end Cut20
namespace Cut20

/-! Calls of built-ins. -/
section
variable {prog : Program} {w : World} {g μ : Zone} {s : Shared} {A : Around} {E : Value → Shared → Prop}

theorem range1_ok {x : Value} {a : PV} {D : Cb} (gi : g.In s.heap) (hx : RepM prog w g μ x a) (h : range1W a D) : wpAny (model prog w) A (call (.type "range") [x]) (Post prog w g μ s D) E s := by
  unfold range1W at h
  split at h
  · obtain ⟨t, rfl⟩ := hx.isInt
    exact call_range_1 (.new gi rfl (.rng (by unfold sml; omega) h.1 Zone.add_self) h.2)
  · exact h.elim
theorem range2_ok {x y : Value} {a b : PV} {D : Cb} (gi : g.In s.heap) (hx : RepM prog w g μ x a) (hy : RepM prog w g μ y b) (h : range2W a b D) : wpAny (model prog w) A (call (.type "range") [x, y]) (Post prog w g μ s D) E s := by
  unfold range2W at h
  split at h
  · obtain ⟨t, rfl⟩ := hx.isInt
    obtain ⟨u, rfl⟩ := hy.isInt
    exact call_range_2 (.new gi rfl (.rng h.1 h.2.1 Zone.add_self) h.2.2)
  · exact h.elim
theorem range3_ok {x y z : Value} {a b c : PV} {D : Cb} (gi : g.In s.heap) (hx : RepM prog w g μ x a) (hy : RepM prog w g μ y b) (hz : RepM prog w g μ z c) (h : range3W a b c D) :
    wpAny (model prog w) A (call (.type "range") [x, y, z]) (Post prog w g μ s D) E s := by
  unfold range3W at h
  split at h
  · obtain ⟨t, rfl⟩ := hx.isInt
    obtain ⟨u, rfl⟩ := hy.isInt
    obtain ⟨v, rfl⟩ := hz.isInt
    obtain ⟨h1, h2, rfl, h3⟩ := h
    exact call_range_3 (by decide) (.new gi rfl (.rng h1 h2 Zone.add_self) h3) (.inl (PyProof.noPylong_small (by decide)))
  · exact h.elim

theorem min2_ok {x y : Value} {a b : PV} {D : Cb} (hh : A.handled = none) (gi : g.In s.heap) (hx : RepM prog w g μ x a) (hy : RepM prog w g μ y b) (h : min2W a b D) : wpAny (model prog w) A (call (.builtin "min") [x, y]) (Post prog w g μ s D) E s := by
  unfold min2W at h
  split at h
  · obtain ⟨t, rfl⟩ := hx.isInt
    obtain ⟨u, rfl⟩ := hy.isInt
    refine min_two_ints hh fun h' tk hk => ?_
    split
    · rename_i c; rw [if_pos c] at h; exact .keep gi (.mk' hk) (.int _ _) h
    · rename_i c; rw [if_neg c] at h; exact .keep gi (.mk' hk) (.int _ _) h
  · exact h.elim
theorem max2_ok {x y : Value} {a b : PV} {D : Cb} (hh : A.handled = none) (gi : g.In s.heap) (hx : RepM prog w g μ x a) (hy : RepM prog w g μ y b) (h : max2W a b D) : wpAny (model prog w) A (call (.builtin "max") [x, y]) (Post prog w g μ s D) E s := by
  unfold max2W at h
  split at h
  · obtain ⟨t, rfl⟩ := hx.isInt
    obtain ⟨u, rfl⟩ := hy.isInt
    refine max_two_ints hh fun h' tk hk => ?_
    split
    · rename_i c; rw [if_pos c] at h; exact .keep gi (.mk' hk) (.int _ _) h
    · rename_i c; rw [if_neg c] at h; exact .keep gi (.mk' hk) (.int _ _) h
  · exact h.elim

theorem RepAll.toInts {vs : List Value} {ds : List PV} {ns : List Int} (r : RepAll prog w g vs ds) (e : intsOf ds = some ns) : ∃ xs : List (Int × Tok), vs = xs.map (fun p => Value.int p.1 p.2) ∧ xs.map (·.1) = ns := by
  induction vs generalizing ds ns with
  | nil => cases r; simp [intsOf] at e; subst e; exact ⟨[], rfl, rfl⟩
  | cons v vs ih =>
    cases r with
    | cons hv r =>
      cases hv <;> simp only [intsOf, reduceCtorEq] at e
      rename_i ds i t
      cases q : intsOf ds with
      | none => rw [q] at e; simp at e
      | some ms =>
        rw [q] at e
        simp at e
        subst e
        obtain ⟨xs, rfl, rfl⟩ := ih r q
        exact ⟨(i, t) :: xs, rfl, rfl⟩
theorem RepAll.toStrs {vs : List Value} {ds : List PV} {ns : List Str} (r : RepAll prog w g vs ds) (e : strsOf ds = some ns) : StrsAre vs ns := by
  induction vs generalizing ds ns with
  | nil => cases r; simp [strsOf] at e; subst e; exact .nil
  | cons v vs ih =>
    cases r with
    | cons hv r =>
      cases hv <;> simp only [strsOf, reduceCtorEq] at e
      rename_i ds x t
      cases q : strsOf ds with
      | none => rw [q] at e; simp at e
      | some ms =>
        rw [q] at e
        simp at e
        subst e
        exact .cons _ _ (ih r q)

theorem min1_ok {x : Value} {a : PV} {D : Cb} (hh : A.handled = none) (gi : g.In s.heap) (hx : RepM prog w g μ x a) (h : min1W a D) : wpAny (model prog w) A (call (.builtin "min") [x]) (Post prog w g μ s D) E s := by
  unfold min1W at h
  split at h
  · obtain ⟨ns, e, hne, q⟩ := h
    obtain ⟨l, vs, n, rfl, p, r, _⟩ := (hx.frz trivial).isList
    obtain ⟨xs, rfl, rfl⟩ := r.toInts e
    have hl : s.heap.IsList l (intItems xs.toArray) := by
      have := isList_of (gi _ _ p)
      simpa [intItems] using this
    have hpos : 0 < xs.toArray.size := by
      rw [List.size_toArray]
      cases xs with
      | nil => simp at hne
      | cons y ys => simp
    refine min_intList hh hl hpos fun v h' tk hv hk => ?_
    obtain ⟨t, rfl⟩ := intItems_at hv
    obtain ⟨b1, b2⟩ := argBest_lt (numAt xs.toArray) (xs.toArray.size - 1)
    have hmem : ∀ j, j < xs.toArray.size → numAt xs.toArray j ∈ xs.map (·.1) := fun j hj => by
      have hj' : j < xs.length := by simpa using hj
      have : numAt xs.toArray j = (xs[j]'hj').1 := by simp [numAt, hj']
      rw [this]
      exact List.mem_map.mpr ⟨_, List.getElem_mem hj', rfl⟩
    refine .keep gi (.mk' hk) (.int _ _) (q _ (hmem _ (by omega)) fun b hb => ?_)
    obtain ⟨p, hp, rfl⟩ := List.mem_map.mp hb
    obtain ⟨j, hj, rfl⟩ := List.mem_iff_getElem.mp hp
    have hj2 : j ≤ xs.toArray.size - 1 := by rw [List.size_toArray]; omega
    have := b2 j hj2
    have e2 : numAt xs.toArray j = (xs[j]).1 := by simp [numAt, hj]
    rw [e2] at this
    exact this
  · exact h.elim

theorem upTo_get : ∀ (n : Nat) (a : Int) (i : Nat), i < n → (upTo a n)[i]? = some (.int (a + i))
  | 0, _, _, h => absurd h (Nat.not_lt_zero _)
  | n + 1, a, 0, _ => by simp [upTo]
  | n + 1, a, i + 1, h => by
    have := upTo_get n (a + 1) i (by omega)
    simp only [upTo, List.getElem?_cons_succ, this]
    congr 2
    push_cast
    omega
theorem upTo_len : ∀ (n : Nat) (a : Int), (upTo a n).length = n
  | 0, _ => rfl
  | n + 1, a => by simp [upTo, upTo_len n]
theorem downTo_get : ∀ (n : Nat) (a : Int) (i : Nat), i < n → (downTo a n)[i]? = some (.int (a - i))
  | 0, _, _, h => absurd h (Nat.not_lt_zero _)
  | n + 1, a, 0, _ => by simp [downTo]
  | n + 1, a, i + 1, h => by
    have := downTo_get n (a - 1) i (by omega)
    simp only [downTo, List.getElem?_cons_succ, this]
    congr 2
    push_cast
    omega
theorem downTo_len : ∀ (n : Nat) (a : Int), (downTo a n).length = n
  | 0, _ => rfl
  | n + 1, a => by simp [downTo, downTo_len n]
/-- a range by one, up or down: its size, its items -/
theorem rng_items {a b c : Int} {ds : List PV} (h : (PV.rng a b c).items = some ds) (ha : sml a) (hb : sml b) :
    c ≠ 0 ∧ Builtin.Range.small a b c = true ∧ Builtin.Range.rangeSize a b c = (ds.length : Int) ∧ ∀ i : Nat, i < ds.length → ds[i]? = some (.int (a + i * c)) := by
  unfold sml at ha hb
  simp only [PV.items] at h
  split at h
  · rename_i hc
    subst hc
    cases h
    refine ⟨by decide, small_one (by omega) (by omega) (by omega) (by omega), ?_, fun i hi => ?_⟩
    · rw [rangeSize_one, upTo_len]; split <;> omega
    · rw [upTo_len] at hi; rw [upTo_get _ _ _ hi, Int.mul_one]
  · split at h
    · rename_i hc
      subst hc
      cases h
      have hs : Builtin.Range.rangeSize a b (-1) = if a > b then a - b else 0 := by
        unfold Builtin.Range.rangeSize
        simp only [show ¬ ((-1 : Int) > 0) by decide, if_false, Int.neg_neg, Int.ediv_one]
        split <;> omega
      refine ⟨by decide, ?_, ?_, fun i hi => ?_⟩
      · unfold Builtin.Range.small
        rw [hs]
        simp only [Builtin.Range.rangeFitsLong, Bool.and_eq_true, Bool.or_eq_true, decide_eq_true_eq, beq_iff_eq, show ¬ ((-1 : Int) > 0) by decide, if_false]
        split <;> omega
      · rw [hs, downTo_len]; split <;> omega
      · rw [downTo_len] at hi; rw [downTo_get _ _ _ hi]; congr 2; omega
    · cases h

theorem RepAll.of_get : ∀ {vs : List Value} {ds : List PV}, vs.length = ds.length → (∀ (i : Nat) (v : Value), vs[i]? = some v → ∃ d, ds[i]? = some d ∧ Rep prog w g v d) → RepAll prog w g vs ds
  | [], [], _, _ => .nil
  | [], _ :: _, h, _ => by simp at h
  | _ :: _, [], h, _ => by simp at h
  | v :: vs, d :: ds, h, hi => by
    obtain ⟨d', e, r⟩ := hi 0 v rfl
    simp at e
    subst e
    exact .cons r (RepAll.of_get (by simpa using h) fun i u hu => by simpa using hi (i + 1) u (by simpa using hu))

theorem listOf_ok {x : Value} {a : PV} {D : Cb} (hh : A.handled = none) (gi : g.In s.heap) (hx : RepM prog w g μ x a) (h : listOfW a D) : wpAny (model prog w) A (call (.type "list") [x]) (Post prog w g μ s D) E s := by
  unfold listOfW at h
  split at h
  · split at h
    · rename_i ds he
      cases hx with
      | fr hx =>
        cases hx with
        | rng hi hj hr =>
          obtain ⟨hc, h1, h2, h3⟩ := rng_items he hi hj
          refine call_list_range hh (gi _ _ hr) h1 h2 (by omega) fun h' tk acc c' hk ho hit => ?_
          have e : acc = acc.toList.toArray := by simp
          rw [e] at ho
          refine ⟨_, _, .add gi (.mk' hk) (get?_size _) ho, .fr (.list Zone.add_self (RepAll.of_get (by simp [hit.1]) fun i v hv => ?_)), h.2⟩
          have hv' : acc[i]? = some v := by simpa using hv
          obtain ⟨t, rfl⟩ := hit.2 i v hv'
          have hlt : i < ds.length := by rw [← hit.1]; exact (Array.getElem?_eq_some_iff.mp hv').1
          exact ⟨_, h3 i hlt, .int _ _⟩
    · exact h.elim
  · exact h.elim

theorem strOf_ok {x : Value} {a : PV} {D : Cb} (gi : g.In s.heap) (hx : RepM prog w g μ x a) (h : strOfW a D) : wpAny (model prog w) A (call (.type "str") [x]) (Post prog w g μ s D) E s := by
  unfold strOfW at h
  split at h
  · rename_i i
    obtain ⟨t, rfl⟩ := hx.isInt
    obtain ⟨h0, h1, q⟩ := h
    refine P.str_of_int ?_ (.val gi (.str _ _) q)
    by_cases hz : i.natAbs = 0
    · rw [hz]; decide
    · refine (Nat.log2_lt hz).mpr ?_
      have h2 : i.natAbs < 10 ^ 300 := by omega
      exact Nat.lt_of_lt_of_le h2 (by decide +kernel)
  · exact h.elim

theorem index_ok {x y : Value} {a b : PV} {D : Cb} (gi : g.In s.heap) (hu : A.units + 64 < cLine) (hx : RepM prog w g μ x a) (hy : RepM prog w g μ y b) (h : indexW a b D) : wpAny (model prog w) A (call (.builtin "list.index") [x, y]) (Post prog w g μ s D) E s := by
  unfold indexW at h
  split at h
  · rename_i ds z
    obtain ⟨hl, hz, j, hj, hno, hs, q⟩ := h
    obtain ⟨l, vs, n, rfl, p, r, el⟩ := (hx.frz trivial).isList
    obtain ⟨u, rfl⟩ := hy.isStr
    have hl' : ∀ e ∈ ds, eqOk 7 e = true := by simpa [eqOk] using hl
    have hz' : eqOk 8 (.str z) = true := by simpa [eqOk] using hz
    obtain ⟨as, ra⟩ := readsAll_of gi 7 r hl'
    have l1 := layAll_of 7 hl'
    have l2 := lay_of 8 _ hz'
    have rz : Reads s.heap (.str z u) (toPy (.str z)) [] := .str z u
    have hd : (toPy (.str z)).depth = 0 := by simp [toPy, PyData.depth]
    have eq := SeqAt.items_eqAt (A := A) (vs := vs.toArray) (by simpa using ra) rz l1.1 l2.1 (by rw [hd]; simp; omega)
    have nc := r.noCur 7
    have at_ : ∀ m (hm : m < vs.toArray.size), ∃ d, ds[m]? = some d ∧ (PyData.eqv (SeqAt.readOf s.heap vs.toArray[m]) (toPy (.str z)) = true ↔ d = .str z) := fun m hm => by
      have hm' : m < vs.length := by simpa using hm
      have hmd : m < ds.length := by omega
      refine ⟨ds[m], List.getElem?_eq_getElem hmd, ?_⟩
      obtain ⟨v, hv, rv⟩ := r.get (List.getElem?_eq_getElem hmd)
      have ev : v = vs[m] := by rw [List.getElem?_eq_getElem hm'] at hv; exact (Option.some.inj hv).symm
      have ok := hl' _ (List.getElem_mem hmd)
      obtain ⟨bs, rb⟩ := reads_of gi 7 rv ok
      have e1 : SeqAt.readOf s.heap vs.toArray[m] = toPy ds[m] := by
        have : vs.toArray[m] = v := by simp [ev]
        rw [this]
        exact SeqAt.readOf_eq (lay_of 7 _ ok).1 rb
      rw [e1]
      exact eqv_of 7 _ _ 8 ok hz' (List.all_eq_true.mp nc _ (List.getElem_mem hmd)) rfl
    have hjd : j < ds.length := (List.getElem?_eq_some_iff.mp hj).1
    have hjv : j < vs.toArray.size := by simp; omega
    refine call_meets F.slot_list_index ⟨_, gi _ _ p, rfl⟩ F.entry_list_index (F.args_list_index_2 _ _)
      (SeqAt.list_indexAt l vs.toArray n none #[] (.str z u) (fun y => PyData.eqv (SeqAt.readOf s.heap y) (toPy (.str z))) j hjv (by omega) ?_ ?_) ⟨gi _ _ p, eq, .val gi (.int _ _) q⟩
    · obtain ⟨d, e1, e2⟩ := at_ j hjv
      rw [hj] at e1
      cases e1
      exact e2.mpr rfl
    · intro m hm hlt
      obtain ⟨d, e1, e2⟩ := at_ m hm
      refine Bool.eq_false_iff.mpr fun h9 => hno m hlt ?_
      rw [e1, e2.mp h9]
  · exact h.elim

theorem join_ok {x y : Value} {a b : PV} {D : Cb} (gi : g.In s.heap) (hx : RepM prog w g μ x a) (hy : RepM prog w g μ y b) (h : joinW a b D) : wpAny (model prog w) A (call (.builtin "str.join") [x, y]) (Post prog w g μ s D) E s := by
  unfold joinW at h
  split at h
  · split at h
    · rename_i xs e
      obtain ⟨t, rfl⟩ := hx.isStr
      obtain ⟨l, vs, n, rfl, p, r, el⟩ := (hy.frz trivial).isList
      exact join_list (isList_of (gi _ _ p)) (r.toStrs e) (by omega) fun t' k => .val gi (.str _ _) h.2
    · exact h.elim
  · exact h.elim

theorem repAll_strs : ∀ l : List (Str × Tok), RepAll prog w g (strValues l) ((l.map (·.1)).map .str)
  | [] => .nil
  | p :: l => .cons (.str _ _) (repAll_strs l)
open Builtin Builtin.Str in
theorem split_ok {x y : Value} {a b : PV} {D : Cb} (gi : g.In s.heap) (hx : RepM prog w g μ x a) (hy : RepM prog w g μ y b) (h : splitW a b D) : wpAny (model prog w) A (call (.builtin "str.split") [x, y]) (Post prog w g μ s D) E s := by
  unfold splitW at h
  split at h
  · rename_i z u
    obtain ⟨t, rfl⟩ := hx.isStr
    obtain ⟨v, rfl⟩ := hy.isStr
    obtain ⟨hu, hz, q⟩ := h
    have fin : ∀ (l : List (Str × Tok)) (k : Nat), l.map (·.1) = Txt.split z u → Post prog w g μ s D (.ref s.heap.objs.size) { s with heap := s.heap.push { cls := .type "list", data := .seq (strValues l).toArray }, toks := k } := fun l k e =>
      .newList (ds := (l.map (·.1)).map .str) gi (repAll_strs l) (by rw [e]; exact q)
    have hn : (partsBetween z (occurrences z u 0 z.length (z.length + 1)) u.length).length ≤ sizeLine := by
      have e1 := StrLaws.occ_length_le z u 0 z.length (z.length + 1)
      rw [length_partsBetween]
      exact sizeLine_le (by omega)
    cases h1 : (decide (z.length < u.length) || decide (strKind z < strKind u)) with
    | true => exact call_meets F.slot_str_split (typeIs_str _ _ _) F.entry_str_split (F.args_str_split_2 _ _) (meets_str_split_cannot_occur z u t v h1) (fin [(z, t)] s.toks (if_pos h1).symm)
    | false =>
      have h1' : ¬ (decide (z.length < u.length) || decide (strKind z < strKind u)) = true := by rw [h1]; exact Bool.false_ne_true
      cases hf : (occurrences z u 0 z.length (z.length + 1)).isEmpty with
      | true => exact call_meets F.slot_str_split (typeIs_str _ _ _) F.entry_str_split (F.args_str_split_2 _ _) (meets_str_split_not_found z u t v h1 hu hf) (fin [(z, t)] s.toks ((if_neg h1').trans (if_pos hf)).symm)
      | false =>
        have hf' : ¬ (occurrences z u 0 z.length (z.length + 1)).isEmpty = true := by rw [hf]; exact Bool.false_ne_true
        refine call_meets F.slot_str_split (typeIs_str _ _ _) F.entry_str_split (F.args_str_split_2 _ _) (meets_str_split_sep z u t v h1 hu hf (sizeLine_le (by omega)) hn) ?_
        show wants _ E _ { s with toks := _, heap := s.heap.push { cls := .type "list", data := .seq (strsFrom s.toks (partsBetween z (occurrences z u 0 z.length (z.length + 1)) u.length)).toArray } }
        rw [strsFrom_eq]
        exact fin (numbered s.toks _) _ ((numbered_texts _ _).trans ((if_neg h1').trans (if_neg hf')).symm)
  · exact h.elim
end
end Cut20
namespace Cut20

/-! sorted of pairs. -/
noncomputable def Leaf (n : Nat) {α : Type} (R : α → Prop) : KasT α → Prop
  | .ret a => R a
  | .ask i j k => i < n ∧ j < n ∧ ∀ b, Leaf n R (k b)
theorem Leaf.bind {n : Nat} {α β : Type} {R : α → Prop} {R' : β → Prop} {f : α → KasT β} (hf : ∀ a, R a → Leaf n R' (f a)) : ∀ t : KasT α, Leaf n R t → Leaf n R' (t.bind f)
  | .ret a, h => hf a h
  | .ask _ _ k, h => ⟨h.1, h.2.1, fun b => Leaf.bind hf (k b) (h.2.2 b)⟩
theorem Leaf.wp {n : Nat} {α : Type} {R : α → Prop} {cmp : Nat → Nat → (Bool → Shared → Prop) → Shared → Prop} {Q : α → Shared → Prop} {s : Shared}
    (hc : ∀ i j C, i < n → j < n → (∀ b, C b s) → cmp i j C s) (hq : ∀ a, R a → Q a s) : ∀ t : KasT α, Leaf n R t → t.kasWp cmp Q s
  | .ret a, h => hq a h
  | .ask _ _ k, h => hc _ _ _ h.1 h.2.1 fun b => Leaf.wp hc hq (k b) (h.2.2 b)

abbrev Pm (n : Nat) (p : Array Nat) : Prop := p.Perm (List.range n).toArray
theorem Pm.get {n : Nat} {p : Array Nat} (h : Pm n p) (hn : 0 < n) (i : Nat) : p.getD i 0 < n := by
  by_cases hi : i < p.size
  · have e : p.getD i 0 = p[i] := by simp [Array.getD, hi]
    rw [e]
    have : p[i] ∈ (List.range n).toArray := (Array.Perm.mem_iff h).mp (Array.getElem_mem hi)
    simpa using this
  · have e : p.getD i 0 = 0 := by simp [Array.getD, hi]
    rw [e]; exact hn
theorem Pm.rev {n : Nat} {p : Array Nat} (h : Pm n p) (i j : Nat) : Pm n (kas_rev p i j) := (mirror_perm _ _ _ _).trans h
theorem Pm.bub {n : Nat} {p : Array Nat} (h : Pm n p) (i j : Nat) : Pm n (bubble p i j) := (bubble_perm _ _ _).trans h
section
variable {n : Nat} (hn : 0 < n)
include hn
theorem leaf_asc {p : Array Nat} (h : Pm n p) : ∀ f m, Leaf n (fun _ => True) (kas_asc p f m)
  | 0, _ => trivial
  | f + 1, m => ⟨h.get hn _, h.get hn _, fun c => by
    cases c with
    | true => exact trivial
    | false => exact leaf_asc h f (m + 1)⟩
theorem leaf_desc : ∀ f (p : Array Nat) m q, Pm n p → Leaf n (fun r => Pm n r.1) (kas_desc f p m q)
  | 0, _, _, _, h => h
  | f + 1, p, m, q, h => ⟨h.get hn _, h.get hn _, fun c => by
    cases c with
    | true =>
      by_cases hq : q > 0
      · simp only [if_true, if_pos hq]; exact leaf_desc f _ _ _ (h.rev _ _)
      · simp only [if_true, if_neg hq]; exact leaf_desc f _ _ _ h
    | false =>
      refine ⟨h.get hn _, h.get hn _, fun d => ?_⟩
      cases d with
      | true => exact h
      | false => exact leaf_desc f _ _ _ h⟩
theorem leaf_tail {p : Array Nat} (h : Pm n p) (m k : Nat) : Leaf n (fun r => Pm n r.2) (kas_tail3 m k p) :=
  Leaf.bind (R := fun _ => True) (fun j _ => show Leaf n (fun r : Nat × Array Nat => Pm n r.2) (KasT.ret (j, kas_rev p 0 m)) from h.rev 0 m) _ (leaf_asc hn (h.rev 0 m) (k - m) m)
theorem leaf_descPart {p : Array Nat} (h : Pm n p) (m k : Nat) : Leaf n (fun r => Pm n r.2) (kas_descPart m k p) :=
  Leaf.bind (fun r hr => by
    split
    · exact leaf_tail hn (hr.rev _ _) _ _
    · exact leaf_tail hn hr _ _) _ (leaf_desc hn (k - (m + 1)) p (m + 1) 0 h)
theorem leaf_count {p : Array Nat} (h : Pm n p) (k : Nat) : Leaf n (fun r => Pm n r.2) (kas_count k p) :=
  Leaf.bind (fun m _ => by
    split
    · exact h
    · split
      · refine ⟨h.get hn _, h.get hn _, fun c => ?_⟩
        cases c with
        | true => exact h
        | false => exact leaf_descPart hn (h.rev _ _) _ _
      · exact leaf_descPart hn h _ _) _ (leaf_asc hn h (k - 1) 1)
theorem leaf_place {p : Array Nat} (h : Pm n p) (k : Nat) : ∀ f l r, Leaf n (fun _ => True) (kas_place p k f l r)
  | 0, _, _ => trivial
  | f + 1, l, r => by
    unfold kas_place
    split
    · exact trivial
    · refine ⟨h.get hn _, h.get hn _, fun c => ?_⟩
      cases c with
      | true => exact leaf_place h k f _ _
      | false => exact leaf_place h k f _ _
theorem leaf_bin : ∀ f (p : Array Nat) k, Pm n p → Leaf n (Pm n) (kas_bin f p k)
  | 0, _, _, h => h
  | f + 1, p, k, h => Leaf.bind (fun l _ => leaf_bin f _ _ (h.bub _ _)) _ (leaf_place hn h k k 0 k)
theorem leaf_sort : Leaf n (Pm n) (kas_sort n) :=
  Leaf.bind (fun r hr => by
    split
    · exact leaf_bin hn _ _ _ hr
    · exact hr) _ (leaf_count hn (Array.Perm.refl _) n)
end

section
variable {prog : Program} {w : World} {A : Around} {E : Value → Shared → Prop} {s : Shared}

/-- list.sort whose questions leave the store alone: some order of the items -/
theorem list_sort_any {a : Addr} {vs : List Value} {n : Nat} {P : PySem.Fin → Shared → Prop} (ho : s.heap.get? a = some (seqObj "list" vs.toArray n)) (h64 : vs.length < 64)
    (hk : 2 ≤ vs.length → ∀ h' : Heap, (∀ b o, b ≠ a → s.heap.get? b = some o → h'.get? b = some o) → ∃ κ, (∀ Q, Q κ { s with heap := h' } → wpAny (model prog w) A (keyKind' vs.toArray) Q E { s with heap := h' }) ∧
      ∀ i j C, i < vs.length → j < vs.length → (∀ b, C b { s with heap := h' }) → kas_ask prog w A κ vs i j C { s with heap := h' })
    (h : ∀ out : List Value, out.Perm vs → P (.done (.ret .none)) { s with heap := sortedHeap s.heap a vs out.toArray }) :
    wpAny (model prog w) A (Builtin.«list.sort» ⟨[.ref a], []⟩) P E s := by
  rw [list_sort_plain]
  have ha : a < s.heap.objs.size := Heap.lt_size ho
  refine wpAny_bind (listItems_at ho rfl ?_)
  refine wpAny_bind (listUpdate_at ho rfl ?_ (by rw [List.size_toArray, sizeLine_eq]; omega) (Nat.zero_le _))
  obtain ⟨e1, ho1⟩ : ∃ e1, (s.heap.update a (Obj.mapSeq fun _ => #[])).get? a = some (seqObj "list" #[] e1) := ⟨_, get?_update_seq ho (fun _ => #[])⟩
  refine wpAny_bind (seqEpoch_at ho1 rfl ?_)
  refine wpAny_bind (wpAny_newTuple ?_ (by show vs.length ≤ _; rw [sizeLine_eq]; omega))
  refine wpAny_bind (wpAny_newList ?_ (Nat.zero_le _))
  refine wpAny_holding ?_
  have hob : ∀ b o, (s.heap.update a (Obj.mapSeq fun _ => (#[] : Array Value))).get? b = some o → (((s.heap.update a (Obj.mapSeq fun _ => #[])).push (seqObj "tuple" vs.toArray 0)).push (seqObj "list" #[] 0)).get? b = some o :=
    fun b o e => Heap.get?_push_of_some _ (Heap.get?_push_of_some _ e)
  have ho6 := hob _ _ ho1
  show wpAny (model prog w) A _ P E { s with heap := ((s.heap.update a (Obj.mapSeq fun _ => #[])).push (seqObj "tuple" vs.toArray 0)).push (seqObj "list" #[] 0) }
  dsimp only
  by_cases h2 : vs.toArray.size < 2
  · rw [if_pos h2, if_pos h2]
    refine wpAny_bind (wpAny_pure ?_)
    rw [StateT.run_pure]
    refine wpAny_bind (wpAny_pure ?_)
    dsimp only
    refine wpAny_bind (seqEpoch_at ho6 rfl ?_)
    refine wpAny_bind (listUpdate_at ho6 rfl ?_ (Nat.zero_le _) (by rw [Array.size_map]; show (pairsOf vs).size ≤ _; rw [pairsOf_size, sizeLine_eq]; omega))
    simp only [bne_self_eq_false, Bool.false_eq_true, if_false]
    have e : (arrOf (SortSt.mk' general' (vs.toArray.zip vs.toArray) #[] 7 none)).map (·.2) = vs.toArray := by
      show (pairsOf vs).map (·.2) = _
      apply Array.toList_inj.mp
      rw [Array.toList_map, pairsOf_toList]
      exact List.map_snd_zip (Nat.le_refl _)
    rw [e]
    exact wpAny_pure (h vs (List.Perm.refl _))
  · rw [if_neg h2, if_neg h2]
    have hge : 2 ≤ vs.length := by rw [List.size_toArray] at h2; omega
    obtain ⟨κ, k1, k2⟩ := hk hge _ fun b o hb e => hob b o (by rw [Heap.get?_update_ne _ _ _ _ hb]; exact e)
    refine wpAny_bind (k1 _ ?_)
    refine wpAny_bind (wpAny_mono (kat_run (ks := vs) (vs := vs) (κ := κ) (G := fun p s' => Pm vs.length p ∧ s' = { s with heap := ((s.heap.update a (Obj.mapSeq fun _ => #[])).push (seqObj "tuple" vs.toArray 0)).push (seqObj "list" #[] 0) })
      (Q := fun st' s' => ∃ p : Array Nat, Pm vs.length p ∧ arrOf st' = p.map (kas_item (vs.toArray.zip vs.toArray)) ∧ failedOf st' = none ∧ s' = { s with heap := ((s.heap.update a (Obj.mapSeq fun _ => #[])).push (seqObj "tuple" vs.toArray 0)).push (seqObj "list" #[] 0) })
      rfl hge h64 (fun p' st' s' a1 a2 a3 a4 => ⟨p', a4.1, a2, a3, a4.2⟩) (Leaf.wp k2 (fun p hp => ⟨hp, rfl⟩) _ (leaf_sort (by omega)))) ?_ fun _ _ e => e)
    rintro ⟨⟨⟩, st'⟩ s' ⟨p, hp, har, hf, rfl⟩
    dsimp only
    have hout := kat_snds rfl har
    have hpl : p.toList.Perm (List.range vs.length) := by simpa using Array.perm_iff_toList_perm.mp hp
    have hperm : (p.toList.map fun i => vs.getD i Value.none).Perm vs := by
      have h1 := hpl.map fun i => vs.getD i Value.none
      have h3 : (List.range vs.length).map (fun i => vs.getD i Value.none) = vs := by
        apply List.ext_getElem
        · simp
        · intro i a1 a2
          simp [a2]
      rw [h3] at h1
      exact h1
    rw [hout]
    refine wpAny_bind (seqEpoch_at ho6 rfl ?_)
    refine wpAny_bind (listUpdate_at ho6 rfl ?_ (Nat.zero_le _) (by rw [List.size_toArray, hperm.length_eq, sizeLine_eq]; omega))
    rw [hf]
    simp only [bne_self_eq_false, Bool.false_eq_true, if_false]
    exact wpAny_pure (h _ hperm)

theorem sorted_any {l : Addr} {vs : List Value} {Q : Value → Shared → Prop} (hl : s.heap.IsList l vs.toArray) (h64 : vs.length < 64)
    (hk : 2 ≤ vs.length → ∀ h' : Heap, Ext s.heap h' → ∃ κ, (∀ Q, Q κ { s with heap := h' } → wpAny (model prog w) A.in1.in1 (keyKind' vs.toArray) Q E { s with heap := h' }) ∧
      ∀ i j C, i < vs.length → j < vs.length → (∀ b, C b { s with heap := h' }) → kas_ask prog w A.in1.in1 κ vs i j C { s with heap := h' })
    (h : ∀ out : List Value, out.Perm vs → Q (.ref (s.heap.objs.size + 1)) { s with heap := sortedAll s.heap vs out.toArray }) :
    wpAny (model prog w) A (call (.builtin "sorted") [.ref l]) Q E s := by
  refine Calls.call_function_entry kind_sorted plain_sorted entry_sorted (args_sorted1 _) ?_
  unfold Builtin.«sorted»
  refine wpAny_bind (m := checkCount "sorted" 1 1 _) (wpAny_pure ?_)
  refine wpAny_bind (collect_list hl ?_ (by rw [sizeLine_eq]; omega))
  refine wpAny_bind (wpAny_newList ?_ (by rw [sizeLine_eq]; omega))
  have hsz : ((s.heap.push (seqObj "list" #[] 0)).update s.heap.objs.size (Obj.mapSeq (· ++ vs.toArray))).objs.size = s.heap.objs.size + 1 := by
    rw [Heap.size_update, size_push']
  have hoL : (((s.heap.push (seqObj "list" #[] 0)).update s.heap.objs.size (Obj.mapSeq (· ++ vs.toArray))).push (seqObj "list" vs.toArray 0)).get? (s.heap.objs.size + 1) = some (seqObj "list" vs.toArray 0) := by
    rw [← hsz]; exact Heap.get?_push_size _ rfl
  have keep : ∀ b o, s.heap.get? b = some o → (((s.heap.push (seqObj "list" #[] 0)).update s.heap.objs.size (Obj.mapSeq (· ++ vs.toArray))).push (seqObj "list" vs.toArray 0)).get? b = some o := fun b o q => by
    have hlt : b < s.heap.objs.size := Heap.lt_size q
    rw [Heap.get?_push_ne _ _ _ (by rw [hsz]; exact Nat.ne_of_lt (Nat.lt_succ_of_lt hlt)), Heap.get?_update_ne _ _ _ _ (Nat.ne_of_lt hlt), Heap.get?_push_ne _ _ _ (Nat.ne_of_lt hlt)]
    exact q
  show wpAny _ _ _ _ _ { s with heap := ((s.heap.push (seqObj "list" #[] 0)).update s.heap.objs.size (Obj.mapSeq (· ++ vs.toArray))).push (seqObj "list" vs.toArray 0) }
  rw [hsz]
  refine wpAny_bind (wpAny_holding (wpAny_call_entry slot_list_sort ⟨_, hoL, rfl⟩ entry_list_sort (list_sort_any hoL h64 (fun h2 h' kp => hk h2 h' fun b o e => kp b o (Nat.ne_of_lt (Nat.lt_succ_of_lt (Heap.lt_size e))) (keep b o e)) fun out hp => ⟨_, rfl, wpAny_pure ⟨_, rfl, h out hp⟩⟩) (args_list_sort _)))

noncomputable def PairI (d : PV) : Prop := ∃ i j, d = .tup [.int i, .int j]
noncomputable def PairS (d : PV) : Prop := ∃ i z, d = .tup [.int i, .str z]
theorem pairOk_of {d : PV} (h : pairOk d = true) : PairI d := by
  cases d with
  | tup ds =>
    cases ds with
    | nil => exact no_tt h
    | cons a r =>
      cases a with
      | int i =>
        cases r with
        | nil => exact no_tt h
        | cons b r =>
          cases b with
          | int j =>
            cases r with
            | nil => exact ⟨i, j, rfl⟩
            | cons _ _ => exact no_tt h
          | _ => exact no_tt h
      | _ => exact no_tt h
  | _ => exact no_tt h
theorem pairTOk_of {d : PV} (h : pairTOk d = true) : PairS d := by
  cases d with
  | tup ds =>
    cases ds with
    | nil => exact no_tt h
    | cons a r =>
      cases a with
      | int i =>
        cases r with
        | nil => exact no_tt h
        | cons b r =>
          cases b with
          | str j =>
            cases r with
            | nil => exact ⟨i, j, rfl⟩
            | cons _ _ => exact no_tt h
          | _ => exact no_tt h
      | _ => exact no_tt h
  | _ => exact no_tt h
theorem not_both {d : PV} (h : pairOk d = true) (h' : pairTOk d = true) : False := by
  obtain ⟨i, j, rfl⟩ := pairOk_of h
  exact no_tt h'
theorem pair_parts {g : Zone} {h : Heap} (gi : g.In h) {v : Value} {d : PV} (r : Rep prog w g v d) (k : pairOk d = true ∨ pairTOk d = true) :
    ∃ a n i t y, v = .ref a ∧ h.get? a = some ({ cls := .type "tuple", data := .seq [Value.int i t, y].toArray n } : Obj) ∧ ((pairOk d = true ∧ ∃ j u, y = .int j u) ∨ (pairTOk d = true ∧ ∃ z u, y = .str z u)) := by
  have two : ∀ {p q : PV}, Rep prog w g v (.tup [p, q]) → ∃ a n v1 v2, v = .ref a ∧ h.get? a = some ({ cls := .type "tuple", data := .seq [v1, v2].toArray n } : Obj) ∧ Rep prog w g v1 p ∧ Rep prog w g v2 q := fun r => by
    obtain ⟨a, vs, n, rfl, p, r, e⟩ := r.isTup
    cases r with
    | cons h1 r =>
      cases r with
      | cons h2 r =>
        cases r
        exact ⟨a, n, _, _, rfl, gi _ _ p, h1, h2⟩
  rcases k with k | k
  · obtain ⟨i, j, rfl⟩ := pairOk_of k
    obtain ⟨a, n, v1, v2, rfl, p, h1, h2⟩ := two r
    obtain ⟨t, rfl⟩ := h1.isInt
    obtain ⟨u, rfl⟩ := h2.isInt
    exact ⟨a, n, i, t, _, rfl, p, .inl ⟨rfl, j, u, rfl⟩⟩
  · obtain ⟨i, z, rfl⟩ := pairTOk_of k
    obtain ⟨a, n, v1, v2, rfl, p, h1, h2⟩ := two r
    obtain ⟨t, rfl⟩ := h1.isInt
    obtain ⟨u, rfl⟩ := h2.isStr
    exact ⟨a, n, i, t, _, rfl, p, .inr ⟨rfl, z, u, rfl⟩⟩

theorem katTups_of {g : Zone} {h : Heap} (gi : g.In h) : ∀ {vs : List Value} {ds : List PV}, RepAll prog w g vs ds → (∀ d ∈ ds, pairOk d = true ∨ pairTOk d = true) →
    ∃ fs, KatTups h vs fs ∧ fs.length = vs.length ∧ ∀ f ∈ fs, ∃ i t, f = Value.int i t
  | [], [], _, _ => ⟨[], .nil, rfl, by simp⟩
  | v :: vs, d :: ds, .cons r rs, k => by
    obtain ⟨fs, h1, h2, h3⟩ := katTups_of gi rs fun d hd => k d (List.mem_cons_of_mem _ hd)
    obtain ⟨a, n, i, t, y, rfl, p, _⟩ := pair_parts gi r (k d (List.mem_cons_self ..))
    refine ⟨.int i t :: fs, .cons p rfl rfl (by simp) h1, by simp [h2], fun f hf => ?_⟩
    rcases List.mem_cons.mp hf with rfl | hf
    · exact ⟨i, t, rfl⟩
    · exact h3 f hf

theorem lex_pair {i j : Int} {t u : Tok} {y z : Value} {Q : Bool → Shared → Prop} {fin : Bool} (hy : (∃ a b c d, y = .int a b ∧ z = .int c d) ∨ ∃ a b c d, y = .str a b ∧ z = .str c d) (h : ∀ b, Q b s) :
    KatLex prog w A true fin Q [(.int i t, .int j u), (y, z)] 0 s := by
  refine kat_cons (wpAny_eqBool_int (kat_go (fun _ => kat_yes (kat_cons ?_)) fun _ => kat_no (oneLt_int (h _))))
  rcases hy with ⟨a, b, c, d, rfl, rfl⟩ | ⟨a, b, c, d, rfl, rfl⟩
  · exact wpAny_eqBool_int (kat_go (fun _ => kat_yes (kat_nil (h _))) fun _ => kat_no (kat_one _ _ (PySem.P.lt_int (h _))))
  · exact wpAny_eqBool_str (kat_go (fun _ => kat_yes (kat_nil (h _))) fun _ => kat_no (kat_one _ _ (PyProof.Rows.lt_str (h _))))

theorem RepAll.perm {g : Zone} {us vs : List Value} (p : us.Perm vs) : ∀ {ds : List PV}, RepAll prog w g vs ds → ∃ es, es.Perm ds ∧ RepAll prog w g us es := by
  induction p with
  | nil => intro ds r; cases r; exact ⟨[], .nil, .nil⟩
  | cons x _ ih =>
    intro ds r
    cases r with
    | cons h r =>
      obtain ⟨es, a, b⟩ := ih r
      exact ⟨_ :: es, a.cons _, .cons h b⟩
  | swap x y l =>
    intro ds r
    cases r with
    | cons h r => cases r with
      | cons k r => exact ⟨_, .swap _ _ _, .cons k (.cons h r)⟩
  | trans _ _ ih1 ih2 =>
    intro ds r
    obtain ⟨es, a, b⟩ := ih2 r
    obtain ⟨fs, c, d⟩ := ih1 b
    exact ⟨fs, c.trans a, d⟩

theorem sorted_ok {g μ : Zone} {x : Value} {a : PV} {D : Cb} (gi : g.In s.heap) (mi : μ.In s.heap) (hx : RepM prog w g μ x a) (h : sortedW a D) : wpAny (model prog w) A (call (.builtin "sorted") [x]) (Post prog w g μ s D) E s := by
  unfold sortedW at h
  split at h
  · rename_i ds e
    obtain ⟨l, vs, n, rfl, p, r, el⟩ := hx.seq e gi mi
    obtain ⟨h64, hk, q⟩ := h
    have hall : ∀ d ∈ ds, pairOk d = true ∨ pairTOk d = true := fun d hd => hk.elim (fun k => .inl (List.all_eq_true.mp k d hd)) fun k => .inr (List.all_eq_true.mp k d hd)
    refine sorted_any (isList_of p) (by omega) (fun h2 h' kp => ⟨tuples' true, fun Q hQ => ?_, fun i j C hi hj hC => ?_⟩) fun out hp => ?_
    · obtain ⟨fs, k1, k2, k3⟩ := katTups_of (gi.ext kp) r hall
      refine kat_kind (s := { s with heap := h' }) (T := .type "int") k1 (by omega) (fun f hf => ?_) rfl hQ
      obtain ⟨i, t, rfl⟩ := k3 f hf
      exact Looks.of_pure rfl
    · unfold kas_ask
      have gi' : g.In h' := gi.ext kp
      have at_ : ∀ i, i < vs.length → ∃ a n k t y, vs.getD i .none = .ref a ∧ h'.get? a = some ({ cls := .type "tuple", data := .seq [Value.int k t, y].toArray n } : Obj) ∧ ((ds.all pairOk = true ∧ ∃ j u, y = .int j u) ∨ (ds.all pairTOk = true ∧ ∃ z u, y = .str z u)) := fun i hi => by
        obtain ⟨v, hv, rv⟩ := r.get (List.getElem?_eq_getElem (show i < ds.length by omega))
        have hm := List.getElem_mem (show i < ds.length by omega)
        obtain ⟨a, n, k, t, y, rfl, p, c⟩ := pair_parts gi' rv (hall _ hm)
        refine ⟨a, n, k, t, y, by rw [List.getD_eq_getElem?_getD, hv]; rfl, p, ?_⟩
        rcases hk with hk | hk
        · rcases c with c | c
          · exact .inl ⟨hk, c.2⟩
          · exact (not_both (List.all_eq_true.mp hk _ hm) c.1).elim
        · rcases c with c | c
          · exact (not_both c.1 (List.all_eq_true.mp hk _ hm)).elim
          · exact .inr ⟨hk, c.2⟩
      obtain ⟨a1, n1, k1, t1, y1, e1, p1, c1⟩ := at_ i hi
      obtain ⟨a2, n2, k2, t2, y2, e2, p2, c2⟩ := at_ j hj
      have hne : ¬ (ds.all pairOk = true ∧ ds.all pairTOk = true) := fun ⟨u, v⟩ => by
        have hm := List.getElem_mem (show i < ds.length by omega)
        exact not_both (List.all_eq_true.mp u _ hm) (List.all_eq_true.mp v _ hm)
      rw [e1, e2]
      refine kat_lt (s := { s with heap := h' }) p1 rfl p2 rfl ?_
      show KatLex prog w A.in1.in1 true _ C [(.int k1 t1, .int k2 t2), (y1, y2)] 0 _
      refine lex_pair ?_ hC
      rcases c1 with ⟨f1, j1, u1, rfl⟩ | ⟨f1, j1, u1, rfl⟩
      · rcases c2 with ⟨f2, j2, u2, rfl⟩ | ⟨f2, _⟩
        · exact .inl ⟨_, _, _, _, rfl, rfl⟩
        · exact absurd ⟨f1, f2⟩ hne
      · rcases c2 with ⟨f2, _⟩ | ⟨f2, j2, u2, rfl⟩
        · exact absurd ⟨f2, f1⟩ hne
        · exact .inr ⟨_, _, _, _, rfl, rfl⟩
    · obtain ⟨es, pe, re⟩ := RepAll.perm hp r
      obtain ⟨e', he⟩ := sortedAll_at s.heap vs out.toArray
      exact ⟨_, _, .add gi (.mk' fun b o => sortedAll_old) (Heap.get?_none_of_le (Nat.le_succ _)) he, .fr (.list Zone.add_self (re.up (Zone.le_add (Zone.none_of gi (Heap.get?_none_of_le (Nat.le_succ _)))))), q es pe⟩
  · exact h.elim
end
end Cut20
namespace Cut20

/-! filter(None, ..) over a dict's values. -/
theorem mro_filter : mroOf (.type "filter") = pure [.type "filter", .type "object"] := by rw [mroOf_type]; kernel_rfl
theorem lookup_filter_new : typeLookup (.type "filter") "__new__" = pure (some (.builtin "filter.__new__")) := by rw [typeLookup_type, builtinLookup_eq_fast]; kernel_rfl
theorem slot_filter_init : Slot "filter" "__init__" "object.__init__" :=
  .of (owner := "object") (n := "__init__") (by rw [typeLookup_type, builtinLookup_eq_fast]; kernel_rfl) (by decide +kernel) (by decide +kernel) (by decide +kernel)
    (by first | exact .inl (by decide +kernel) | exact .inr (by decide +kernel)) (by rw [isSubtype_type]; kernel_rfl)
theorem slot_filter_next : Slot "filter" "__next__" "filter.__next__" :=
  .of (owner := "filter") (n := "__next__") (by rw [typeLookup_type, builtinLookup_eq_fast]; kernel_rfl) (by decide +kernel) (by decide +kernel) (by decide +kernel)
    (by first | exact .inl (by decide +kernel) | exact .inr (by decide +kernel)) (by rw [isSubtype_type]; kernel_rfl)
theorem slot_filter_iter : Slot "filter" "__iter__" "filter.__iter__" :=
  .of (owner := "filter") (n := "__iter__") (by rw [typeLookup_type, builtinLookup_eq_fast]; kernel_rfl) (by decide +kernel) (by decide +kernel) (by decide +kernel)
    (by first | exact .inl (by decide +kernel) | exact .inr (by decide +kernel)) (by rw [isSubtype_type]; kernel_rfl)
theorem called_filter : TypeCalled "filter" "filter.__new__" "object.__init__" :=
  ⟨by decide +kernel, by decide +kernel, ⟨_, _, mro_filter⟩, madeBy_type mro_filter lookup_filter_new (by decide +kernel), by decide +kernel, by rw [isSubtype_type]; kernel_rfl, slot_filter_init⟩
theorem typeCall_filter_2 (a b : Value) : checkTypeCall "filter" ⟨[a, b], []⟩ = pure () := by kernel_rfl
theorem newCall_filter_2 (a b : Value) : checkBuiltinCall "filter.__new__" ⟨[.type "filter", a, b], []⟩ = pure () := by kernel_rfl
theorem entry_filter_new : entryFor table "filter.__new__" = some Builtin.«filter.__new__» := entryFor_of_tree (by kernel_rfl)
theorem entry_filter_next : entryFor table "filter.__next__" = some Builtin.«filter.__next__» := entryFor_of_tree (by kernel_rfl)
theorem entry_filter_iter : entryFor table "filter.__iter__" = some Builtin.«dict_keyiterator.__iter__» :=
  entryFor_alias (id' := "dict_keyiterator.__iter__") (by kernel_rfl) (by first | rfl | decide +kernel | (unfold String.splitOn; simp +decide [String.splitOnAux])) (by decide +kernel) (by kernel_rfl)
theorem sub_filter : isSubtype (.type "filter") (.type "filter") = pure true := by rw [isSubtype_type]; kernel_rfl
theorem plain_filter_next : plainId "filter.__next__" = true := by decide +kernel
theorem owner_filter : Manifest.owners.lookup (String.ofList ['r', 'e', 't', 'l', 'i', 'f'].reverse) = some Manifest.sig_filter := by kernel_rfl
theorem args_filter_next (a : Value) : argsOk "filter.__next__" ⟨[a], []⟩ := by
  unfold argsOk; rw [signature?_of (id := "filter.__next__") (n := ['_', '_', 't', 'x', 'e', 'n', '_', '_']) (o := ['r', 'e', 't', 'l', 'i', 'f']) (by kernel_rfl) owner_filter]; kernel_rfl
theorem args_filter_iter (a : Value) : argsOk "filter.__iter__" ⟨[a], []⟩ := by
  unfold argsOk; rw [signature?_of (id := "filter.__iter__") (n := ['_', '_', 'r', 'e', 't', 'i', '_', '_']) (o := ['r', 'e', 't', 'l', 'i', 'f']) (by kernel_rfl) owner_filter]; kernel_rfl

section
variable {prog : Program} {w : World} {A : Around} {E : Value → Shared → Prop} {s : Shared}

theorem val_item {it d : Addr} {i ep : Nat} {kvs : List (Int × Value)} {k : Int} {v : Value} {Q : Option Value → Shared → Prop} (hit : s.heap.IsValIter it d i kvs.length ep)
    (hm : s.heap.DictAt (intKind prog w) d kvs ep) (hx : kvs[i]? = some (k, v))
    (hQ : ∀ h', h'.IsValIter it d (i + 1) kvs.length ep → Heap.SameBut it s.heap h' → Q (some v) { s with heap := h' }) :
    wpAny (model prog w) A (callSpecial? (.ref it) (Str.ofString "__next__")) Q E s := by
  obtain ⟨o, ho, hc, hd⟩ := id hit
  obtain ⟨od, es, hod, hcd, hdd, hk, hp, hn⟩ := id hm
  refine wpAny_callSpecial?_slot (name := Str.ofString "__next__") hit.typeIs F.slot_dict_valueiterator_next
    (wpAny_call_entry F.slot_dict_valueiterator_next hit.typeIs F.entry_dict_valueiterator_next ?_ (F.args_dict_valueiterator_next_1 _))
  refine wpAny_bind (wpAny_pure ?_)
  refine wpAny_bind ?_
  refine wpAny_bind ?_
  first | refine wpAny_bind (wpAny_typeNameOfWhole_valiter hit.typeIs (wpAny_pure ?_)) | refine wpAny_bind (wpAny_typeNameOf_valiter hit.typeIs (wpAny_pure ?_))
  refine wpAny_bind (wpAny_fieldsOf ho hd ?_)
  have hown : Builtin.Dict_items.ownsTuple "dict_valueiterator" = false := by decide
  simp only [hown, Bool.false_eq_true, if_false]
  show wpAny _ _ (if (Value.ref d == Value.none) = true then _ else _) _ _ s
  rw [if_neg (show ¬ ((Value.ref d == Value.none) = true) from Bool.false_ne_true)]
  refine wpAny_bind (wpAny_pure ?_)
  refine wpAny_bind (wpAny_dictEntries hod hdd ?_)
  have hsz : es.size = kvs.length := by rw [← hp.length]; simp
  rw [if_neg (by rw [hsz]; simp)]
  refine wpAny_bind (wpAny_pure ?_)
  refine wpAny_bind (wpAny_dictEpoch hod hdd ?_)
  rw [if_neg (by simp)]
  refine wpAny_pure ?_
  have hlt : i < kvs.length := (List.getElem?_eq_some_iff.mp hx).1
  have hlt' : i < es.size := by rw [hsz]; exact hlt
  have hval : es[i].val = v := (hp.get? (e := es[i]) (by simp [hlt']) hx).2
  simp only [show ¬ ((i : Int) < 0) from by omega, if_false, Int.toNat_natCast, Array.getElem?_eq_getElem hlt']
  refine wpAny_bind ?_
  first | refine wpAny_bind (wpAny_typeNameOfWhole_valiter hit.typeIs (wpAny_pure ?_)) | refine wpAny_bind (wpAny_typeNameOf_valiter hit.typeIs (wpAny_pure ?_))
  refine wpAny_bind (wpAny_isOneOf_valiter hit.typeIs ?_)
  show wpAny _ _ (setField (.ref it) 1 (rawInt ((i : Int) + 1)) >>= _) _ _ s
  refine wpAny_bind (wpAny_setField ho hd (by simp) ?_)
  have hit' : (s.heap.update it (Obj.mapFields (·.setIfInBounds 1 (rawInt ((i : Int) + 1))))).IsValIter it d (i + 1) kvs.length ep :=
    ⟨_, Heap.get?_update_self _ ho (Obj.isFreed_of_fields (Obj.data_mapFields hd _)), (Obj.cls_mapFields ..).trans hc, by rw [Obj.data_mapFields hd]; simp [rawInt]⟩
  refine wpAny_bind (wpAny_holding ?_)
  refine wpAny_bind (wpAny_isOneOf_valiter (s := { s with heap := s.heap.update it (Obj.mapFields (·.setIfInBounds 1 (rawInt ((i : Int) + 1)))) }) hit'.typeIs ?_)
  refine wpAny_bind (wpAny_isOneOf_valiter (s := { s with heap := s.heap.update it (Obj.mapFields (·.setIfInBounds 1 (rawInt ((i : Int) + 1)))) }) hit'.typeIs ?_)
  show wpAny _ _ (pure es[i].val) _ _ _
  exact wpAny_pure (wpAny_pure ⟨_, rfl, hval ▸ hQ _ hit' (Heap.SameBut.update ..)⟩)

theorem val_end {it d : Addr} {i ep : Nat} {kvs : List (Int × Value)} {Q : Option Value → Shared → Prop} (hh : A.handled = none) (hit : s.heap.IsValIter it d i kvs.length ep)
    (hm : s.heap.DictAt (intKind prog w) d kvs ep) (hx : kvs[i]? = none)
    (hE : ∀ h' e, Heap.ExtBut it s.heap h' → (∃ o, h'.get? e = some o ∧ o.cls = .type "StopIteration") → E (.ref e) { s with heap := h' }) :
    wpAny (model prog w) A (callSpecial? (.ref it) (Str.ofString "__next__")) Q E s := by
  obtain ⟨o, ho, hc, hd⟩ := id hit
  obtain ⟨od, es, hod, hcd, hdd, hk, hp, hn⟩ := id hm
  refine wpAny_callSpecial?_slot (name := Str.ofString "__next__") hit.typeIs F.slot_dict_valueiterator_next
    (wpAny_call_entry F.slot_dict_valueiterator_next hit.typeIs F.entry_dict_valueiterator_next ?_ (F.args_dict_valueiterator_next_1 _))
  refine wpAny_bind (wpAny_pure ?_)
  refine wpAny_bind ?_
  refine wpAny_bind ?_
  first | refine wpAny_bind (wpAny_typeNameOfWhole_valiter hit.typeIs (wpAny_pure ?_)) | refine wpAny_bind (wpAny_typeNameOf_valiter hit.typeIs (wpAny_pure ?_))
  refine wpAny_bind (wpAny_fieldsOf ho hd ?_)
  have hown : Builtin.Dict_items.ownsTuple "dict_valueiterator" = false := by decide
  simp only [hown, Bool.false_eq_true, if_false]
  show wpAny _ _ (if (Value.ref d == Value.none) = true then _ else _) _ _ s
  rw [if_neg (show ¬ ((Value.ref d == Value.none) = true) from Bool.false_ne_true)]
  refine wpAny_bind (wpAny_pure ?_)
  refine wpAny_bind (wpAny_dictEntries hod hdd ?_)
  have hsz : es.size = kvs.length := by rw [← hp.length]; simp
  rw [if_neg (by rw [hsz]; simp)]
  refine wpAny_bind (wpAny_pure ?_)
  refine wpAny_bind (wpAny_dictEpoch hod hdd ?_)
  rw [if_neg (by simp)]
  refine wpAny_pure ?_
  have hge : es.size ≤ i := by rw [hsz]; simpa using hx
  simp only [show ¬ ((i : Int) < 0) from by omega, if_false, Int.toNat_natCast, Array.getElem?_eq_none hge]
  refine wpAny_bind ?_
  first | refine wpAny_bind (wpAny_typeNameOfWhole_valiter hit.typeIs (wpAny_pure ?_)) | refine wpAny_bind (wpAny_typeNameOf_valiter hit.typeIs (wpAny_pure ?_))
  show wpAny _ _ (setField (.ref it) 0 .none >>= _) _ _ s
  refine wpAny_bind (wpAny_setField ho hd (by simp) ?_)
  show wpAny _ _ (newExc (.type "StopIteration") [] >>= _) _ _ _
  refine wpAny_bind ?_
  simp only [newExc, newTuple]
  refine wpAny_bind (wpAny_newObj_type ?_ (by size_fits))
  refine wpAny_bind (m := firstArgMember _ _) (wpAny_of_eq (a := Value.none) (by first | rfl | (simp only [firstArgMember]; rfl)) ?_)
  refine wpAny_newObj_type ?_ (by size_fits)
  simp only [raiseNew]
  refine wpAny_bind (wpAny_handled ?_)
  rw [show A.in1.handled = none from hh]
  refine wpAny_bind (wpAny_pure (wpAny_throw ?_))
  exact hE _ _ (((Heap.SameBut.update ..).extBut.push _).push _) ⟨_, Heap.get?_push_size _ rfl, rfl⟩

noncomputable def keepV (v : Value) : Bool := match v with | .int i _ => !(i == 0) | _ => false
noncomputable def kept (kvs : List (Int × Value)) (i : Nat) : Nat := (((kvs.take i).map (·.2)).filter keepV).length
noncomputable def keptAll (kvs : List (Int × Value)) : List Value := (kvs.map (·.2)).filter keepV
noncomputable def plainV (v : Value) : Prop := v = .none ∨ ∃ i t, v = .int i t
noncomputable def filterObj (it : Addr) : Obj := { cls := .type "filter", data := .fields #[.none, .ref it] }
theorem keptAll_get : ∀ (kvs : List (Int × Value)) (i : Nat) (k : Int) (v : Value), kvs[i]? = some (k, v) → keepV v = true → (keptAll kvs)[kept kvs i]? = some v
  | [], i, k, v, h, _ => by simp at h
  | p :: r, 0, k, v, h, hk => by
    have hp : p = (k, v) := by simpa using h
    subst hp
    simp [keptAll, kept, hk]
  | p :: r, i + 1, k, v, h, hk => by
    have := keptAll_get r i k v (by simpa using h) hk
    unfold keptAll kept at this ⊢
    simp only [List.map_cons, List.take_succ_cons, List.filter_cons]
    split
    · simpa using this
    · simpa using this
theorem kept_succ (kvs : List (Int × Value)) (i : Nat) (k : Int) (v : Value) (h : kvs[i]? = some (k, v)) : kept kvs (i + 1) = kept kvs i + (if keepV v = true then 1 else 0) := by
  obtain ⟨hi, e⟩ := List.getElem?_eq_some_iff.mp h
  unfold kept
  rw [List.take_succ_eq_append_getElem hi, e, List.map_append, List.filter_append, List.length_append]
  congr 1
  show (List.filter keepV [v]).length = _
  rw [List.filter_cons]
  split <;> rfl
theorem kept_all (kvs : List (Int × Value)) : kept kvs kvs.length = (keptAll kvs).length := by unfold kept keptAll; rw [List.take_length]
theorem kept_le (kvs : List (Int × Value)) (i : Nat) : kept kvs i ≤ (keptAll kvs).length := by
  unfold kept keptAll
  exact List.Sublist.length_le (((List.take_sublist i kvs).map _).filter _)

/-- one step of the filter's own code -/
theorem filter_code {f it d : Addr} {ep : Nat} {kvs : List (Int × Value)} {R : Result → Shared → Prop} (hpl : ∀ p ∈ kvs, plainV p.2) (hh : A.handled = none) (hne : d ≠ it) (hfi : f ≠ it) :
    ∀ (n i : Nat) (s : Shared), kvs.length - i = n → i ≤ kvs.length → s.heap.get? f = some (filterObj it) → s.heap.IsValIter it d i kvs.length ep → s.heap.DictAt (intKind prog w) d kvs ep →
      (∀ j v h', i ≤ j → kvs[j]?.map (·.2) = some v → keepV v = true → kept kvs j = kept kvs i → h'.IsValIter it d (j + 1) kvs.length ep → (∀ b o, b ≠ it → s.heap.get? b = some o → h'.get? b = some o) → R (.ok (.ret v)) { s with heap := h' }) →
      (kept kvs kvs.length = kept kvs i → ∀ h' e, (∀ b o, b ≠ it → s.heap.get? b = some o → h'.get? b = some o) → (∃ o, h'.get? e = some o ∧ o.cls = .type "StopIteration") → R (.error (.ref e)) { s with heap := h' }) →
      codeAny (model prog w) A (.builtin "filter.__next__" ⟨[.ref f], []⟩) R s := by
  intro n
  induction n with
  | zero =>
    intro i s hn hi hf hit hm hQ hE
    have hin : i = kvs.length := by omega
    subst hin
    refine codeAny_builtin entry_filter_next ?_
    rw [Around.under_plainId plain_filter_next _]
    show wpAny _ A.in1 (field (.ref f) 0 >>= _) _ _ s
    refine wpAny_bind (wpAny_field hf rfl (x := .none) rfl ?_)
    show wpAny _ A.in1 (field (.ref f) 1 >>= _) _ _ s
    refine wpAny_bind (wpAny_field hf rfl (x := .ref it) rfl ?_)
    exact wpAny_bind (val_end (A := A.in1) hh hit hm (by simp) fun h' e hk he => hE rfl h' e hk he)
  | succ n ih =>
    intro i s hn hi hf hit hm hQ hE
    have hlt : i < kvs.length := by omega
    obtain ⟨⟨k, v⟩, hx⟩ : ∃ p, kvs[i]? = some p := ⟨kvs[i], by simp [hlt]⟩
    have hpv : plainV v := hpl (k, v) (List.mem_of_getElem? hx)
    refine codeAny_builtin entry_filter_next ?_
    rw [Around.under_plainId plain_filter_next _]
    show wpAny _ A.in1 (field (.ref f) 0 >>= _) _ _ s
    refine wpAny_bind (wpAny_field hf rfl (x := .none) rfl ?_)
    show wpAny _ A.in1 (field (.ref f) 1 >>= _) _ _ s
    refine wpAny_bind (wpAny_field hf rfl (x := .ref it) rfl ?_)
    refine wpAny_bind (val_item (A := A.in1) hit hm hx fun h' hit' hs' => ?_)
    have hk : ∀ b o, b ≠ it → s.heap.get? b = some o → h'.get? b = some o := fun b o hb e => hs'.extBut b o hb e
    have ht : ∀ {Q : Bool → Shared → Prop} {E : Value → Shared → Prop}, Q (keepV v) { s with heap := h' } → wpAny (model prog w) A.in1 (truthy v) Q E { s with heap := h' } := by
      intro Q E hq
      rcases hpv with rfl | ⟨j, t, rfl⟩
      · exact PyProof.Rows.truthy_none hq
      · exact PySem.P.truthy_int hq
    refine wpAny_bind (wpAny_holding ?_)
    show wpAny _ A.in1 (rule _ >>= fun _ => truthy v) _ _ _
    refine wpAny_bind (wpAny_rule (ht ?_))
    cases hkv : keepV v with
    | true =>
      simp only [if_true]
      exact wpAny_pure (hQ i v h' (Nat.le_refl _) (by rw [hx]; rfl) hkv rfl hit' hk)
    | false =>
      simp only [Bool.false_eq_true, if_false]
      have hke : kept kvs (i + 1) = kept kvs i := by rw [kept_succ kvs i k v hx, hkv]; simp
      refine wpAny_pure ⟨plainId_quiet plain_filter_next _, ih (i + 1) _ (by omega) hlt (hk _ _ hfi hf) hit' (hm.extBut hs'.extBut hne) (fun j u h'' hj hu hku hej hit'' hk'' => ?_) fun he h'' e hk'' hs'' => ?_⟩
      · exact hQ j u h'' (by omega) hu hku (by rw [hej, hke]) hit'' fun b o hb e => hk'' b o hb (hk b o hb e)
      · exact hE (by rw [he, hke]) h'' e (fun b o hb e => hk'' b o hb (hk b o hb e)) hs''
end
end Cut20
namespace Cut20

section
variable {prog : Program} {w : World} {A : Around} {E : Value → Shared → Prop} {s : Shared}

abbrev FSt (prog : Program) (w : World) (f it d : Addr) (ep : Nat) (kvs : List (Int × Value)) (j : Nat) (h : Heap) : Prop :=
  h.get? f = some (filterObj it) ∧ h.DictAt (intKind prog w) d kvs ep ∧ ∃ i, i ≤ kvs.length ∧ kept kvs i = j ∧ h.IsValIter it d i kvs.length ep

theorem call_filter_next {f it : Addr} {R : Result → Shared → Prop} (hf : s.heap.get? f = some (filterObj it)) (h : codeAny (model prog w) A (.builtin "filter.__next__" ⟨[.ref f], []⟩) R s) :
    codeAny (model prog w) A (.call (.builtin "filter.__next__") ⟨[.ref f], []⟩) R s :=
  codeAny_call_builtin_code (plainId_quiet plain_filter_next _) (slot_filter_next.check _ _ _ _ _ _ _ _ ⟨_, hf, rfl⟩ (args_filter_next _) h)

theorem keptAll_all (kvs : List (Int × Value)) {v : Value} (h : v ∈ keptAll kvs) : keepV v = true := (List.mem_filter.mp h).2
theorem Walks.filter (hh : A.handled = none) {f it d : Addr} {ep : Nat} {kvs : List (Int × Value)} (hpl : ∀ p ∈ kvs, plainV p.2) (hne : d ≠ it) (hfi : f ≠ it) :
    Walks prog w A f [f, it, d] [it] (keptAll kvs).length (fun j v => (keptAll kvs)[j]? = some v) (FSt prog w f it d ep kvs) where
  sub := fun b hb => by simp at hb; simp [hb]
  frame := fun _ _ _ st hk => ⟨hk f (by simp) _ st.1, st.2.1.at' fun o e => hk d (by simp) o e, let ⟨i, a, b, c⟩ := st.2.2; ⟨i, a, b, c.at fun o e => hk it (by simp) o e⟩⟩
  item := fun j s Q E hj st hQ => by
    obtain ⟨hf, hm, i, hi, hji, hit⟩ := st
    unfold pyNext
    refine wpAny_bind (wpAny_attempt (wpAny_callSpecial?_slot (name := Str.ofString "__next__") ⟨_, hf, rfl⟩ slot_filter_next (wpAny_call (call_filter_next hf ?_))))
    refine filter_code hpl hh hne hfi (kvs.length - i) i s rfl hi hf hit hm (fun m v h' hm' hv hkv hkm hit' hk => ?_) fun he => ?_
    · have hsome : ∃ k, kvs[m]? = some (k, v) := by
        cases q : kvs[m]? with
        | none => rw [q] at hv; cases hv
        | some p => rw [q] at hv; cases hv; exact ⟨p.1, rfl⟩
      obtain ⟨k, hx⟩ := hsome
      have hlt : m < kvs.length := (List.getElem?_eq_some_iff.mp hx).1
      refine wpAny_pure (hQ v h' s.toks ?_ ⟨hk _ _ hfi hf, hm.at' fun o e => hk d o hne e, m + 1, hlt, ?_, hit'⟩ fun b o hb e => hk b o (fun q => hb (by simp [q])) e)
      · rw [← hji, ← hkm]; exact keptAll_get kvs m k v hx hkv
      · rw [kept_succ kvs m k v hx, if_pos hkv, hkm, hji]
    · rw [kept_all, hji] at he
      omega
  done := fun s Q E st hQ => by
    obtain ⟨hf, hm, i, hi, hji, hit⟩ := st
    unfold pyNext
    refine wpAny_bind (wpAny_attempt (wpAny_callSpecial?_slot (name := Str.ofString "__next__") ⟨_, hf, rfl⟩ slot_filter_next (wpAny_call (call_filter_next hf ?_))))
    refine filter_code hpl hh hne hfi (kvs.length - i) i s rfl hi hf hit hm (fun m v h' hm' hv hkv hkm hit' hk => ?_) fun he h' e hk hs => ?_
    · exfalso
      have hsome : ∃ k, kvs[m]? = some (k, v) := by
        cases q : kvs[m]? with
        | none => rw [q] at hv; cases hv
        | some p => rw [q] at hv; cases hv; exact ⟨p.1, rfl⟩
      obtain ⟨k, hx⟩ := hsome
      have := keptAll_get kvs m k v hx hkv
      rw [hkm, hji] at this
      simp at this
    · obtain ⟨o, ho, hc⟩ := hs
      refine wpAny_bind (wpAny_isInstance (T := "StopIteration") (b := true) ⟨o, ho, hc⟩ isSubtype_stop ?_)
      exact wpAny_pure (hQ _ _ fun b o hb e => hk b o (fun q => hb (by simp [q])) e)
  self := fun _ s Q E st hQ => by
    refine wpAny_pyIter_slot (T := "filter") ⟨_, st.1, rfl⟩ slot_filter_iter (wpAny_call_entry slot_filter_iter ⟨_, st.1, rfl⟩ entry_filter_iter ?_ (args_filter_iter _))
    show wpAny _ _ (ret (.ref f)) _ _ s
    exact wpAny_pure ⟨_, rfl, "filter", _, ⟨_, st.1, rfl⟩, slot_filter_next.lookup, hQ⟩

theorem filter_new {v d : Addr} {kvs : List (Int × Value)} {ep : Nat} :
    MeetsIn prog w (Builtin.«filter.__new__» ⟨[.type "filter", .none, .ref v], []⟩) (fun _ R s => s.heap.IsValuesView v d ∧ s.heap.DictAt (intKind prog w) d kvs ep ∧
      R (.ok (.ret (.ref (s.heap.push { cls := .type "dict_valueiterator", data := .fields #[.ref d, .int 0 0, .int kvs.length 0, .int ep 0] }).objs.size)))
        { s with heap := (s.heap.push { cls := .type "dict_valueiterator", data := .fields #[.ref d, .int 0 0, .int kvs.length 0, .int ep 0] }).push (filterObj s.heap.objs.size) }) :=
  .of_wp fun A R s h => by
    obtain ⟨hp, g, dr, tk, os⟩ := s; obtain ⟨hv, hm, h⟩ := h
    have hsub := sub_filter
    have hV : Heap.IsValuesView (Shared.heap ⟨hp, g, dr, tk, os⟩) v d := hv
    have hM : Heap.DictAt (intKind prog w) (Shared.heap ⟨hp, g, dr, tk, os⟩) d kvs ep := hm
    wp_walk using wpAny_pyIter_values hV hM
    exact ⟨_, rfl, h⟩
end
end Cut20
namespace Cut20

section
variable {prog : Program} {w : World} {A : Around} {E : Value → Shared → Prop} {s : Shared}

theorem call_filter {v d : Addr} {kvs : List (Int × Value)} {ep : Nat} {Q : Value → Shared → Prop} (hv : s.heap.IsValuesView v d) (hm : s.heap.DictAt (intKind prog w) d kvs ep)
    (h : ∀ h', Ext s.heap h' → h'.get? (s.heap.objs.size + 1) = some (filterObj s.heap.objs.size) → h'.IsValIter s.heap.objs.size d 0 kvs.length ep → Q (.ref (s.heap.objs.size + 1)) { s with heap := h' }) :
    wpAny (model prog w) A (call (.type "filter") [.none, .ref v]) Q E s := by
  have hz : (s.heap.push { cls := .type "dict_valueiterator", data := .fields #[.ref d, .int 0 0, .int kvs.length 0, .int ep 0] }).objs.size = s.heap.objs.size + 1 := Heap.size_push ..
  have hf : ((s.heap.push { cls := .type "dict_valueiterator", data := .fields #[.ref d, .int 0 0, .int kvs.length 0, .int ep 0] }).push (filterObj s.heap.objs.size)).get? (s.heap.objs.size + 1) = some (filterObj s.heap.objs.size) := by
    rw [← hz]; exact Heap.get?_push_size _ rfl
  refine callType_newIn called_filter (by decide) (typeCall_filter_2 _ _) (newCall_filter_2 _ _) (fun obj => F.args_object_init_3 obj _ _) entry_filter_new filter_new ⟨hv, hm, ?_⟩
  rw [hz]
  refine ⟨⟨_, hf, rfl⟩, h _ (fun b o e => Heap.get?_push_of_some _ (Heap.get?_push_of_some _ e)) hf ⟨_, Heap.get?_push_of_some _ (Heap.get?_push_size _ rfl), rfl, rfl⟩⟩

variable {R : Result → Shared → Prop} {I : Addr} {fp wr : List Addr} {n : Nat} {P : Nat → Value → Prop} {St : Nat → Heap → Prop} {kw : List (Str × Value)}

theorem maxd_loop (W : Walks prog w A.in1 I fp wr n P St) (bt : Nat → Nat → Bool) (hcmp : CmpOf prog w A.in1 .Gt P bt) (S : Addr) (hSf : S ∉ fp) :
    ∀ (k j : Nat) (s : Shared) (vb : Value) (c : Nat), n - (j + 1) = k → j + 1 ≤ n → St (j + 1) s.heap → P (argBest bt j) vb →
    s.heap.get? S = some { cls := .type "list", dict := none, data := .seq #[vb, vb] c, slots := #[] } →
    (∀ v h' tk, P (argBest bt (n - 1)) v → (∀ b o, b ∉ wr → b ≠ S → s.heap.get? b = some o → h'.get? b = some o) → R (.ok (.ret v)) { s with heap := h', toks := tk }) →
    codeAny (model prog w) A (.builtin "max.loop" ⟨[.ref I, .none, .ref S], kw⟩) R s := by
  have hSw : S ∉ wr := fun h => hSf (W.sub _ h)
  have hname : (toString "max" ++ toString ".loop" : String) = "max.loop" := by decide
  intro k
  induction k with
  | zero =>
    intro j s vb c hk hj hst hPb hS hR
    have hin : j + 1 = n := by omega
    refine codeAny_builtin F.entry_max_loop ?_
    rw [Around.under_plainId F.plain_max_loop _]
    show wpAny _ A.in1 (seqItems? (.ref S) >>= _) _ _ s
    refine wpAny_bind (wpAny_seqItems hS rfl ?_)
    show wpAny _ A.in1 (tryCatch (pyNext (.ref I)) _ >>= _) _ _ s
    refine wpAny_bind (wpAny_tryCatch (W.done s _ _ (hin ▸ hst) fun h' tk hk' => ?_))
    have hS' := hk' S _ hSw hS
    show wpAny _ A.in1 (updateSeq S (fun _ => #[]) >>= _) _ _ _
    refine wpAny_bind ?_
    refine wpAny_updateSeq hS' rfl (wpAny_bind (wpAny_letGo (wpAny_pure ?_)))
    refine hR vb _ tk (by rw [← hin]; exact hPb) fun b o hbw hbS e => (Heap.get?_update_other _ _ (Ne.symm hbS)).trans (hk' b o hbw e)
  | succ k ih =>
    intro j s vb c hk hj hst hPb hS hR
    have hlt : j + 1 < n := by omega
    refine codeAny_builtin F.entry_max_loop ?_
    rw [Around.under_plainId F.plain_max_loop _]
    show wpAny _ A.in1 (seqItems? (.ref S) >>= _) _ _ s
    refine wpAny_bind (wpAny_seqItems hS rfl ?_)
    show wpAny _ A.in1 (tryCatch (pyNext (.ref I)) _ >>= _) _ _ s
    refine wpAny_bind (wpAny_tryCatch (W.item (j + 1) s _ _ hlt hst fun v h' tk hP hst' hk' => ?_))
    have hS' := hk' S _ hSw hS
    show wpAny _ A.in1 (tryCatch (holding [v, v] (richCompare .Gt v vb >>= _)) _ >>= _) _ _ _
    refine wpAny_bind (wpAny_tryCatch (wpAny_holding (wpAny_bind (hcmp (j + 1) (argBest bt j) v vb _ _ _ hP hPb ?_))))
    refine wpAny_bind (wpAny_holding (wpAny_truthy_bool ?_))
    refine wpAny_bind (wpAny_letGo (wpAny_pure ?_))
    cases hb : bt (j + 1) (argBest bt j) with
    | true =>
      simp only [if_true]
      refine wpAny_bind ?_
      refine wpAny_updateSeq hS' rfl (wpAny_bind (wpAny_letGo ?_))
      rw [hname]
      refine wpAny_pure ⟨plainId_quiet F.plain_max_loop _, ih (j + 1) _ v _ (by omega) hlt (W.frame _ _ _ hst' fun b hbf o e => ?_) (by simp only [argBest, hb, if_true]; exact hP) (Heap.get?_update_self _ hS' rfl)
        fun v' h'' tk'' hP' hk'' => ?_⟩
      · exact (Heap.get?_update_other _ _ (fun h : S = b => hSf (by rw [h]; exact hbf))).trans e
      · exact hR v' h'' tk'' hP' fun b o hbw hbS e => hk'' b o hbw hbS ((Heap.get?_update_other _ _ (Ne.symm hbS)).trans (hk' b o hbw e))
    | false =>
      simp only [Bool.false_eq_true, if_false]
      refine wpAny_bind (wpAny_letGo ?_)
      rw [hname]
      refine wpAny_pure ⟨plainId_quiet F.plain_max_loop _, ih (j + 1) _ vb c (by omega) hlt hst' (by simp only [argBest, hb, Bool.false_eq_true, if_false]; exact hPb) hS' fun v' h'' tk'' hP' hk'' => ?_⟩
      exact hR v' h'' tk'' hP' fun b o hbw hbS e => hk'' b o hbw hbS (hk' b o hbw e)

theorem args_max_dflt (a v : Value) : argsOk "max" ⟨[a], [(Str.ofString "default", v)]⟩ := by unfold argsOk; kernel_rfl

/-- max of a walk, or the default -/
theorem call_max_dflt {d : Value} {Q : Value → Shared → Prop} (W : Walks prog w A.in1 I fp wr n P St) (bt : Nat → Nat → Bool) (hcmp : CmpOf prog w A.in1 .Gt P bt) (hst : St 0 s.heap) (hfp : ∀ b ∈ fp, b < s.heap.objs.size)
    (h1 : 0 < n → ∀ v h' tk, P (argBest bt (n - 1)) v → (∀ b o, b ∉ wr → s.heap.get? b = some o → h'.get? b = some o) → Q v { s with heap := h', toks := tk })
    (h0 : n = 0 → ∀ h' tk, (∀ b o, b ∉ wr → s.heap.get? b = some o → h'.get? b = some o) → Q d { s with heap := h', toks := tk }) :
    wpAny (model prog w) A (call (.builtin "max") [.ref I] [(Str.ofString "default", d)]) Q E s := by
  have hname : (toString "max" ++ toString ".loop" : String) = "max.loop" := by decide
  refine kmb_tree F.kind_max F.plain_max F.entry_max (args_max_dflt _ _) ?_
  show wpAny _ A.in1 (Builtin.Builtins.bindParams "max" ["key", "default"] 0 ⟨[], [(Str.ofString "default", d)]⟩ >>= _) _ _ s
  refine wpAny_bind (wpAny_of_eq (a := [none, some d]) (by rfl) ?_)
  show wpAny _ A.in1 (pure (.ref I) >>= fun items => pyIter items >>= _) _ _ s
  refine wpAny_bind (wpAny_pure ?_)
  refine wpAny_bind (W.self 0 s _ _ hst ?_)
  refine wpAny_bind (wpAny_newObj_type ?_)
  have hSf : s.heap.objs.size ∉ fp := fun hm => Nat.lt_irrefl _ (hfp _ hm)
  have hSw : s.heap.objs.size ∉ wr := fun h => hSf (W.sub _ h)
  rw [hname]
  refine wpAny_pure ⟨plainId_quiet F.plain_max_loop _, ?_⟩
  show codeAny (model prog w) A (.builtin "max.loop" ⟨[.ref I, .none, .ref s.heap.objs.size], [(Str.ofString "default", d)]⟩) _ { s with heap := s.heap.push { cls := .type "list", data := .seq #[] } }
  have hst' : St 0 (s.heap.push ({ cls := .type "list", data := .seq #[] } : Obj)) := W.frame _ _ _ hst fun b _ o e => Heap.get?_push_of_some _ e
  have hS : (s.heap.push ({ cls := .type "list", data := .seq #[] } : Obj)).get? s.heap.objs.size = some { cls := .type "list", data := .seq #[] } := Heap.get?_push_size _ rfl
  have old : ∀ b o, s.heap.get? b = some o → b ≠ s.heap.objs.size := fun b o e => Nat.ne_of_lt (Heap.lt_size e)
  by_cases hn : 0 < n
  · refine codeAny_builtin F.entry_max_loop ?_
    rw [Around.under_plainId F.plain_max_loop _]
    show wpAny _ A.in1 (seqItems? (.ref s.heap.objs.size) >>= _) _ _ _
    refine wpAny_bind (wpAny_seqItems hS rfl ?_)
    show wpAny _ A.in1 (tryCatch (pyNext (.ref I)) _ >>= _) _ _ _
    refine wpAny_bind (wpAny_tryCatch (W.item 0 _ _ _ hn hst' fun v h' tk hP hst'' hk' => ?_))
    have hS' := hk' s.heap.objs.size _ hSw hS
    show wpAny _ A.in1 (updateSeq s.heap.objs.size (fun _ => #[v, v]) >>= _) _ _ _
    refine wpAny_bind ?_
    refine wpAny_updateSeq hS' rfl ?_
    rw [hname]
    refine wpAny_pure ⟨plainId_quiet F.plain_max_loop _, maxd_loop W bt hcmp s.heap.objs.size hSf _ 0 _ v _ rfl hn (W.frame _ _ _ hst'' fun b hbf o e => ?_) hP (Heap.get?_update_self _ hS' rfl) fun v' h'' tk'' hP' hk'' => ?_⟩
    · exact (Heap.get?_update_other _ _ (fun h : s.heap.objs.size = b => hSf (by rw [h]; exact hbf))).trans e
    · exact h1 hn v' h'' tk'' hP' fun b o hbw e => hk'' b o hbw (old b o e) ((Heap.get?_update_other _ _ (Ne.symm (old b o e))).trans (hk' b o hbw (Heap.get?_push_of_some _ e)))
  · have hn0 : n = 0 := by omega
    refine codeAny_builtin F.entry_max_loop ?_
    rw [Around.under_plainId F.plain_max_loop _]
    show wpAny _ A.in1 (seqItems? (.ref s.heap.objs.size) >>= _) _ _ _
    refine wpAny_bind (wpAny_seqItems hS rfl ?_)
    show wpAny _ A.in1 (tryCatch (pyNext (.ref I)) _ >>= _) _ _ _
    refine wpAny_bind (wpAny_tryCatch (W.done _ _ _ (hn0 ▸ hst') fun h' tk hk' => ?_))
    show wpAny _ A.in1 (rule _ >>= fun _ => ret d) _ _ _
    exact wpAny_bind (wpAny_rule (wpAny_pure (h0 hn0 _ _ fun b o hb e => hk' b o hb (Heap.get?_push_of_some _ e))))

theorem max_filter {f it d : Addr} {ep : Nat} {kvs : List (Int × Value)} {dv : Value} {Q : Value → Shared → Prop} (hh : A.handled = none) (hpl : ∀ p ∈ kvs, plainV p.2) (hne : d ≠ it) (hfi : f ≠ it)
    (hf : s.heap.get? f = some (filterObj it)) (hm : s.heap.DictAt (intKind prog w) d kvs ep) (hit : s.heap.IsValIter it d 0 kvs.length ep)
    (h1 : ∀ i t h' tk, Value.int i t ∈ keptAll kvs → (∀ j u, Value.int j u ∈ keptAll kvs → j ≤ i) → (∀ b o, b ≠ it → s.heap.get? b = some o → h'.get? b = some o) → Q (.int i t) { s with heap := h', toks := tk })
    (h0 : keptAll kvs = [] → ∀ h' tk, (∀ b o, b ≠ it → s.heap.get? b = some o → h'.get? b = some o) → Q dv { s with heap := h', toks := tk }) :
    wpAny (model prog w) A (call (.builtin "max") [.ref f] [(Str.ofString "default", dv)]) Q E s := by
  have numOf' : ∀ v ∈ keptAll kvs, ∃ i t, v = Value.int i t := fun v hv => by
    have := keptAll_all kvs hv
    unfold keepV at this
    split at this
    · exact ⟨_, _, rfl⟩
    · cases this
  let num : Nat → Int := fun j => match (keptAll kvs)[j]? with | some (.int i _) => i | _ => 0
  have hnum : ∀ (j : Nat) (v : Value), (keptAll kvs)[j]? = some v → ∃ t, v = Value.int (num j) t := fun j v hj => by
    obtain ⟨i, t, rfl⟩ := numOf' v (List.mem_of_getElem? hj)
    refine ⟨t, ?_⟩
    show Value.int i t = .int (match (keptAll kvs)[j]? with | some (.int i _) => i | _ => 0) t
    rw [hj]
  refine call_max_dflt (Walks.filter (A := A.in1) hh hpl hne hfi) (fun i j => decide (num i > num j)) (CmpOf.ints_gt num fun j v hj => hnum j v hj) ⟨hf, hm, 0, Nat.zero_le _, by simp [kept], hit⟩ (fun b hb => ?_) (fun hn v h' tk hP hk => ?_) fun hn h' tk hk => ?_
  · simp only [List.mem_cons, List.not_mem_nil, or_false] at hb
    rcases hb with rfl | rfl | rfl
    · exact Heap.lt_size hf
    · obtain ⟨o, ho, _⟩ := hit; exact Heap.lt_size ho
    · obtain ⟨o, es, ho, _⟩ := hm; exact Heap.lt_size ho
  · obtain ⟨t, rfl⟩ := hnum _ v hP
    refine h1 _ t h' tk (List.mem_of_getElem? hP) (fun j u hj => ?_) fun b o hb e => hk b o (by simp [hb]) e
    obtain ⟨m, hlt, hm'⟩ := List.mem_iff_getElem.mp hj
    have hg : (keptAll kvs)[m]? = some (.int j u) := by rw [List.getElem?_eq_getElem hlt, hm']
    obtain ⟨t', e⟩ := hnum m _ hg
    cases e
    exact (argBest_gt num ((keptAll kvs).length - 1)).2 m (by omega)
  · exact h0 (List.length_eq_zero_iff.mp hn) h' tk fun b o hb e => hk b o (by simp [hb]) e
end
end Cut20
namespace Cut20

/-! Expressions: what W says is what the model does. -/
section
variable (prog : Program) (w : World) (mg mb : Str → Option Value) (tab : Str → Option Int) (call : Nat → List PV → Cb → Prop)
structure Snd (k : Nat) (sc : Scope) (e : Expr) (ie : IE) : Prop where
  ok : ∀ {A : Around} {env : Env} {g μ : Zone} {σ : Sg} {s : Shared}, Room k A → Fit sc env → At prog w mg mb tab g μ env σ s → ∀ D : Cb, W tab call ie σ D →
    wpAny (model prog w) A (eval e env) (Post prog w g μ s D) noE s
structure SndT (k : Nat) (sc : Scope) (e : Expr) (ie : IE) : Prop where
  ok : ∀ {A : Around} {env : Env} {g μ : Zone} {σ : Sg} {s : Shared}, Room k A → Fit sc env → At prog w mg mb tab g μ env σ s → ∀ T : Bool → Prop, W tab call ie σ (fun d => truth d T) →
    wpAny (model prog w) A (isTrue e env (eval e env)) (PostT g s T) noE s
noncomputable def SndB (k : Nat) (sc : Scope) (e : Expr) (ie : IE) : Prop := Snd prog w mg mb tab call k sc e ie ∧ SndT prog w mg mb tab call k sc e ie
noncomputable def SndR (k : Nat) (r : Rec) : Prop := ∀ sc e ie, r sc e = some ie → SndB prog w mg mb tab call k sc e ie
/-- calls of the text's own functions -/
noncomputable def CallOk (k : Nat) : Prop := ∀ f i fv, fid f = some i → mg f = some fv → ∀ {A : Around} {g : Zone} {s : Shared} {vs : List Value} {ds : List PV} {D : Cb}, Room k A → g.In s.heap → Stat prog w mg mb tab s.heap →
  RepAll prog w g vs ds → call i ds D → wpAny (model prog w) A (PySem.call fv vs) (fun v s' => ∃ g' d, Step g s g' s' ∧ Rep prog w g' v d ∧ D d) noE s
end

noncomputable def noStar (e : Expr) : Bool := match e with | .Starred .. => false | _ => true
theorem starEach_cons {e : Expr} (h : noStar e = true) (rest : List Expr) (env : Env) : starEach (e :: rest) env = (false, eval e env) :: starEach rest env := by
  cases e <;> first | rfl | exact no_tt h
theorem plainArgs (pos : Pos) (env : Env) : ∀ as : List Expr, as.all noStar = true → (backTo pos (starEach as env)).any (·.1) = false
  | [], _ => rfl
  | e :: as, h => by
    simp only [List.all_cons, Bool.and_eq_true] at h
    rw [starEach_cons h.1]
    show (false || (backTo pos (starEach as env)).any (·.1)) = false
    rw [plainArgs pos env as h.2]; rfl

theorem noStar_of {sc : Scope} {e : Expr} {ie : IE} (n : Nat) (h : cE n sc e = some ie) : noStar e = true := by
  cases n with
  | zero => cases h
  | succ n => cases e <;> first | rfl | exact no_some h

section
variable {prog : Program} {w : World} {mg mb : Str → Option Value} {tab : Str → Option Int} {call : Nat → List PV → Cb → Prop} {k : Nat} {sc : Scope}
  {A : Around} {env : Env} {g μ : Zone} {σ : Sg} {s : Shared} {D : Cb}

theorem Snd.run {e : Expr} {ie : IE} {Q : Value → Shared → Prop} (h : Snd prog w mg mb tab call k sc e ie) (R : Room k A) (F : Fit sc env) (a : At prog w mg mb tab g μ env σ s) (hw : W tab call ie σ D)
    (hq : ∀ g' v d s', Step g s g' s' → At prog w mg mb tab g' μ env σ s' → RepM prog w g' μ v d → D d → Q v s') : wpAny (model prog w) A (eval e env) Q noE s :=
  wpAny_mono (h.ok R F a D hw) (fun v s' ⟨g', d, st, r, q⟩ => hq g' v d s' st (a.step st) r q) fun _ _ x => x
theorem SndT.run {e : Expr} {ie : IE} {T : Bool → Prop} {Q : Bool → Shared → Prop} (h : SndT prog w mg mb tab call k sc e ie) (R : Room k A) (F : Fit sc env) (a : At prog w mg mb tab g μ env σ s) (hw : W tab call ie σ fun d => truth d T)
    (hq : ∀ g' b s', Step g s g' s' → At prog w mg mb tab g' μ env σ s' → T b → Q b s') : wpAny (model prog w) A (isTrue e env (eval e env)) Q noE s :=
  wpAny_mono (h.ok R F a T hw) (fun v s' ⟨g', st, q⟩ => hq g' v s' st (a.step st) q) fun _ _ x => x
theorem post_after {g₁ : Zone} {s₁ : Shared} {t : Sem Value} (st : Step g s g₁ s₁) (h : wpAny (model prog w) A t (Post prog w g₁ μ s₁ D) noE s₁) : wpAny (model prog w) A t (Post prog w g μ s D) noE s₁ :=
  wpAny_mono h (fun _ _ p => p.after st) fun _ _ x => x
theorem RepM.on {g' : Zone} {v : Value} {d : PV} {s' : Shared} (r : RepM prog w g μ v d) (st : Step g s g' s') : RepM prog w g' μ v d := r.up st.le (Zone.le.refl _)

/-- a test of a node that has no road of its own -/
theorem sndT_of {e : Expr} {ie : IE} (h : Snd prog w mg mb tab call k sc e ie) (he : ∀ env whole, isTrue e env whole = (do let v ← whole; standAt e.pos; holding [v] (truthy v))) : SndT prog w mg mb tab call k sc e ie :=
  ⟨fun R F a _ hw => wpAny_isTrue_value (h.run R F a hw fun g' _ _ _ st _ r q => truth_ok r q fun _ hb => ⟨g', st, hb⟩) (he _ _)⟩

/-! constants and names -/
theorem const_snd {c : Const} {x : Nat} {pos : Pos} {ie : IE} (h : cConst c = some ie) : Snd prog w mg mb tab call k sc (.Constant c x pos) ie := by
  refine ⟨fun {A env g μ σ s} R F a D hw => ?_⟩
  cases c <;> simp only [cConst, Option.some.injEq, reduceCtorEq] at h <;> subst h
  · exact wpAny_Constant_none (.here a.gin .none hw)
  · exact wpAny_Constant_bool (.here a.gin (.bool _) hw)
  · exact wpAny_Constant_int (.val a.gin (.int _ _) hw)
  · exact wpAny_Constant_str (.val a.gin (.str _ _) hw)
theorem name_snd {x : Str} {pos : Pos} {ie : IE} (h : cName sc x = some ie) : Snd prog w mg mb tab call k sc (.Name x pos) ie := by
  refine ⟨fun {A env g μ σ s} R F a D hw => ?_⟩
  unfold cName at h
  split at h
  · cases hv : vid x with
    | none => rw [hv] at h; cases h
    | some i => rw [hv] at h; cases h; exact name_var F a hv hw
  · split at h
    · rename_i hx
      cases h
      simp only [Bool.and_eq_true] at hx
      obtain ⟨t, ht⟩ := a.stat.line
      have e : x = Str.ofString "_NO_LINENO" := by simpa using hx.2
      exact name_glob F a hx.1 (e ▸ ht) (by rw [e]; decide) (.here a.gin (.str _ _) hw)
    · cases h

/-! arithmetic, tests -/
theorem bin_snd {r : Rec} (hr : SndR prog w mg mb tab call k r) {l b : Expr} {op : Operator} {pos : Pos} {ie : IE} (h : cBin r sc l op b = some ie) : Snd prog w mg mb tab call k sc (.BinOp l op b pos) ie := by
  simp only [cBin, Option.bind_eq_bind, Option.bind_eq_some_iff, Option.some.injEq] at h
  obtain ⟨o, ho, x, hx, y, hy, rfl⟩ := h
  obtain rfl := cOp_of ho
  refine ⟨fun {A env g μ σ s} R F a D hw => ?_⟩
  exact wpAny_BinOp ((hr _ _ _ hx).1.run R F a hw fun g₁ v₁ d₁ s₁ st₁ a₁ r₁ hw₁ => (hr _ _ _ hy).1.run R F a₁ hw₁ fun g₂ v₂ d₂ s₂ st₂ a₂ r₂ hw₂ =>
    post_after (st₁.trans st₂) (bin_ok a₂.gin (r₁.on st₂) r₂ hw₂))
theorem un_snd {op : UnaryOp} {x : Expr} {pos : Pos} {ie : IE} (h : cUn op x = some ie) : Snd prog w mg mb tab call k sc (.UnaryOp op x pos) ie := by
  refine ⟨fun {A env g μ σ s} R F a D hw => ?_⟩
  cases op with
  | USub =>
    cases x with
    | Constant c kk p =>
      cases c with
      | int i =>
        cases h
        exact wpAny_UnaryOp (wpAny_Constant_int (PySem.P.neg_int (.val a.gin (.int _ _) hw)))
      | _ => exact no_some h
    | _ => exact no_some h
  | _ => exact no_some h

/-- a datum that is true or false -/
theorem truth_bool {v : Value} {d : PV} {T : Bool → Prop} (hv : RepM prog w g μ v d) (h : truth d T) : ∃ b, v = .bool b ∧ d = .bool b ∧ T b := by
  cases d with
  | bool b => exact ⟨b, hv.isBool, rfl, h⟩
  | _ => exact h.elim

theorem bool_snd {r : Rec} (hr : SndR prog w mg mb tab call k r) {op : BoolOp} {es : List Expr} {pos : Pos} {ie : IE} (h : cBool r sc op es = some ie) : SndB prog w mg mb tab call k sc (.BoolOp op es pos) ie := by
  unfold cBool at h
  split at h
  · rename_i x y
    simp only [Option.bind_eq_bind, Option.bind_eq_some_iff] at h
    obtain ⟨ix, hx, iy, hy, h⟩ := h
    cases op with
    | And =>
      cases h
      refine ⟨⟨fun {A env g μ σ s} R F a D hw => ?_⟩, ⟨fun {A env g μ σ s} R F a T hw => ?_⟩⟩
      · refine wpAny_And2 ((hr _ _ _ hx).1.run R F a hw fun g₁ v₁ d₁ s₁ st₁ a₁ r₁ hw₁ => ?_)
        obtain ⟨b, rfl, rfl, hb⟩ := truth_bool r₁ hw₁
        refine wpAny_truthy_bool ?_
        cases b with
        | true => exact post_after st₁ ((hr _ _ _ hy).1.ok R F a₁ D hb)
        | false => exact Post.after st₁ (.here a₁.gin (.bool _) hb)
      · refine wpAny_isTrue_BoolOp (wpAny_allTrue_And_cons ((hr _ _ _ hx).2.run R F a hw fun g₁ b s₁ st₁ a₁ hb => ?_))
        cases b with
        | true => exact wpAny_allTrue_And_cons ((hr _ _ _ hy).2.run R F a₁ hb fun g₂ c s₂ st₂ a₂ hc => by
            cases c with
            | true => exact wpAny_allTrue_And_nil ⟨g₂, st₁.trans st₂, hc⟩
            | false => exact ⟨g₂, st₁.trans st₂, hc⟩)
        | false => exact ⟨g₁, st₁, hb⟩
    | Or =>
      cases h
      refine ⟨⟨fun {A env g μ σ s} R F a D hw => ?_⟩, ⟨fun {A env g μ σ s} R F a T hw => ?_⟩⟩
      · refine wpAny_Or2 ((hr _ _ _ hx).1.run R F a hw fun g₁ v₁ d₁ s₁ st₁ a₁ r₁ hw₁ => ?_)
        obtain ⟨b, rfl, rfl, hb⟩ := truth_bool r₁ hw₁
        refine wpAny_truthy_bool ?_
        cases b with
        | false => exact post_after st₁ ((hr _ _ _ hy).1.ok R F a₁ D hb)
        | true => exact Post.after st₁ (.here a₁.gin (.bool _) hb)
      · refine wpAny_isTrue_BoolOp (wpAny_allTrue_Or_cons ((hr _ _ _ hx).2.run R F a hw fun g₁ b s₁ st₁ a₁ hb => ?_))
        cases b with
        | false => exact wpAny_allTrue_Or_cons ((hr _ _ _ hy).2.run R F a₁ hb fun g₂ c s₂ st₂ a₂ hc => by
            cases c with
            | false => exact wpAny_allTrue_Or_nil ⟨g₂, st₁.trans st₂, hc⟩
            | true => exact ⟨g₂, st₁.trans st₂, hc⟩)
        | true => exact ⟨g₁, st₁, hb⟩
  · cases h
theorem ite_snd {r : Rec} (hr : SndR prog w mg mb tab call k r) {t x y : Expr} {pos : Pos} {ie : IE} (h : (do some (IE.ite (← r sc t) (← r sc x) (← r sc y))) = some ie) : SndB prog w mg mb tab call k sc (.IfExp t x y pos) ie := by
  simp only [Option.bind_eq_bind, Option.bind_eq_some_iff, Option.some.injEq] at h
  obtain ⟨it, ht, ix, hx, iy, hy, rfl⟩ := h
  refine ⟨⟨fun {A env g μ σ s} R F a D hw => ?_⟩, ⟨fun {A env g μ σ s} R F a T hw => ?_⟩⟩
  · refine wpAny_IfExp ((hr _ _ _ ht).2.run R F a hw fun g₁ b s₁ st₁ a₁ hb => ?_)
    cases b with
    | true => exact post_after st₁ ((hr _ _ _ hx).1.ok R F a₁ D hb)
    | false => exact post_after st₁ ((hr _ _ _ hy).1.ok R F a₁ D hb)
  · show wpAny _ A (do if ← isTrue t env (eval t env) then isTrue x env (eval x env) else isTrue y env (eval y env)) _ _ _
    refine wpAny_bind ((hr _ _ _ ht).2.run R F a hw fun g₁ b s₁ st₁ a₁ hb => ?_)
    cases b with
    | true => exact (hr _ _ _ hx).2.run R F a₁ hb fun g₂ c s₂ st₂ a₂ hc => ⟨g₂, st₁.trans st₂, hc⟩
    | false => exact (hr _ _ _ hy).2.run R F a₁ hb fun g₂ c s₂ st₂ a₂ hc => ⟨g₂, st₁.trans st₂, hc⟩
end
end Cut20
namespace Cut20

/-! A dict's values. -/
theorem base_of {o : Expr} (m : Str) (env : Env) (h : plainBase o = true) : attributeBase o m env (eval o env) = eval o env := by
  cases o with
  | Call f as ks p =>
    cases f with
    | Name x q =>
      cases as with
      | nil => cases ks with
        | nil => exact no_tt h
        | cons _ _ => rfl
      | cons _ _ => rfl
    | _ => rfl
  | _ => rfl
theorem no_contains : typeLookup (.type "dict_values") (Str.ofString "__contains__") = pure none := by rw [typeLookup_type, builtinLookup_eq_fast]; kernel_rfl
theorem ne_succ {h h' : Heap} {b : Addr} {o : Obj} (hz : h'.objs.size = h.objs.size + 1) (e : h.get? b = some o) : b ≠ h'.objs.size := by
  rw [hz]; exact Nat.ne_of_lt (Nat.lt_succ_of_lt (Heap.lt_size e))
theorem entry_contains_iter : entryFor table "proto.contains_iter" = some Builtin.«proto.contains_iter» := entryFor_of_tree (by kernel_rfl)
theorem plain_contains_iter : plainId "proto.contains_iter" = true := by decide +kernel
section
variable {prog : Program} {w : World} {A : Around} {E : Value → Shared → Prop} {s : Shared} {g μ : Zone} {env : Env}

theorem Rep.isDict {v : Value} {es : List (Int × PV)} (h : Rep prog w g v (.dict es)) : ∃ a o kvs ds, v = .ref a ∧ (a == sysModules) = false ∧ g a = some o ∧ (∀ h : Heap, h.get? a = some o → h.DictOf (intKind prog w) a kvs) ∧
    RepAll prog w g ((kvs : List (Int × Value)).map (·.2)) ds ∧ es = (kvs.map (·.1)).zip ds := by
  cases h with
  | dict n h e r => exact ⟨_, _, _, _, rfl, n, h, e, r, rfl⟩

noncomputable def viewObj (a : Addr) : Obj := { cls := .type "dict_values", data := .fields #[.ref a] }
noncomputable def DictHere (prog : Program) (w : World) (Q : Value → Shared → Prop) (v : Value) (s : Shared) : Prop :=
  ∃ a kvs, v = .ref a ∧ (a == sysModules) = false ∧ s.heap.DictOf (intKind prog w) a kvs ∧ Q (.ref s.heap.objs.size) { s with heap := s.heap.push (viewObj a) }
theorem values_run {o : Expr} {m : Str} {ap pos : Pos} {Q : Value → Shared → Prop} (hm : (m == ("values" : Str)) = true) (pb : plainBase o = true) (hl : (ap.endLine == pos.line) = true)
    (h : wpAny (model prog w) A (eval o env) (DictHere prog w Q) E s) :
    wpAny (model prog w) A (eval (.Call (.Attribute o m ap) [] [] pos) env) Q E s := by
  have e : m = Str.ofString "values" := by simpa using hm
  subst e
  refine wpAny_Call_method0_late (base_of _ _ pb) hl (wpAny_mono h (fun v s₁ h₁ => ?_) fun _ _ x => x)
  obtain ⟨a, kvs, rfl, hs, hd, hq⟩ := h₁
  refine ⟨"dict", "dict.values", F.plainAttrs_dict, F.slot_dict_values, F.type_dict_values, hd.typeIs, hd.mapOf.noDict, ?_⟩
  refine Calls.callWith_builtin rfl (PySem.evalArgs_none ?_)
  exact call_meetsIn F.slot_dict_values hd.typeIs F.entry_dict_values (F.args_dict_values_1 _) (meets_dict_values (intKind prog w) a hs) ⟨⟨kvs, hd⟩, hq⟩

theorem plain_vals {kvs : List (Int × Value)} {ds : List PV} (r : RepAll prog w g (kvs.map (·.2)) ds) (h : ∀ d ∈ ds, valOk d = true) : ∀ p ∈ kvs, plainV p.2 := by
  intro p hp
  obtain ⟨i, hi, e⟩ := List.mem_iff_getElem.mp hp
  have hi' : i < ds.length := by have := r.length; simp at this; omega
  obtain ⟨v, hv, rv⟩ := r.get (List.getElem?_eq_getElem hi')
  have ev : v = p.2 := by
    rw [List.getElem?_map, List.getElem?_eq_getElem hi, e] at hv
    exact (Option.some.inj hv).symm
  subst ev
  have hk := h _ (List.getElem_mem hi')
  cases rv' : ds[i] <;> rw [rv'] at hk rv <;> simp only [valOk, reduceCtorEq] at hk
  · cases hq : p.2 <;> rw [hq] at rv <;> cases rv
    exact .inl rfl
  · obtain ⟨t, e⟩ := rv.isInt
    exact .inr ⟨_, t, e⟩

theorem kept_ints {vs : List Value} {ds : List PV} (r : RepAll prog w g vs ds) : ∀ i, (∃ t, Value.int i t ∈ vs.filter keepV) ↔ i ∈ ds.filterMap some? := by
  induction vs generalizing ds with
  | nil => cases r; intro i; simp
  | cons v vs ih =>
    cases r with
    | cons h r =>
      intro i
      have := ih r i
      cases h <;> simp only [List.filter_cons, keepV, List.filterMap_cons, some?, Bool.false_eq_true, if_false, this]
      rename_i ds j t
      by_cases hj : j = 0
      · subst hj
        simpa using this
      · simp only [beq_iff_eq, hj, Bool.not_eq_true', beq_eq_false_iff_ne, ne_eq, not_false_eq_true, if_true, if_false, List.mem_cons, ← this]
        constructor
        · rintro ⟨u, hu | hu⟩
          · cases hu; exact .inl rfl
          · exact .inr ⟨u, hu⟩
        · rintro (rfl | ⟨u, hu⟩)
          · exact ⟨t, .inl rfl⟩
          · exact ⟨u, .inr hu⟩

theorem at_of {h : Heap} {a : Addr} {kvs : List (Int × Value)} (d : h.DictOf (intKind prog w) a kvs) : ∃ ep, h.DictAt (intKind prog w) a kvs ep := by
  obtain ⟨o, es, ep, r⟩ := d
  exact ⟨ep, o, es, r⟩

theorem vals_of_zip {kvs : List (Int × Value)} {ds : List PV} (hl : kvs.length = ds.length) : ((kvs.map (·.1)).zip ds).map (·.2) = ds := List.map_snd_zip (by simp; omega)

/-- filter(None, values) and then max, from the view on -/
theorem maxvals_ok {v : Value} {es : List (Int × PV)} {D : Cb} (hh : A.handled = none) (gi : g.In s.heap) (rv : Rep prog w g v (.dict es)) (h : maxValsW (.dict es) D) :
    ∃ a kvs, v = .ref a ∧ (a == sysModules) = false ∧ s.heap.DictOf (intKind prog w) a kvs ∧
      wpAny (model prog w) A (call (.type "filter") [.none, .ref s.heap.objs.size]) (fun f s₂ => ∀ (t : Tok) (tk : Nat), wpAny (model prog w) A (call (.builtin "max") [f] [(Str.ofString "default", .int (-1) t)])
        (Post prog w g μ s D) noE { s₂ with toks := tk }) noE { s with heap := s.heap.push (viewObj a) } := by
  obtain ⟨a, o, kvs, ds, rfl, hs, hg, hd, r, rfl⟩ := rv.isDict
  have hlen : kvs.length = ds.length := by have := r.length; simpa using this
  have hdo := hd _ (gi _ _ hg)
  obtain ⟨ep, hat⟩ := at_of hdo
  simp only [maxValsW, vals_of_zip hlen] at h
  obtain ⟨hsz, hok, hm⟩ := h
  have hok' : ∀ d ∈ ds, valOk d = true := fun d hd' => by
    rw [← vals_of_zip hlen] at hd'
    obtain ⟨p, hp, rfl⟩ := List.mem_map.mp hd'
    exact List.all_eq_true.mp hok p hp
  have hpl := plain_vals r hok'
  have alt : a < s.heap.objs.size := Heap.lt_size (gi _ _ hg)
  have hz : (s.heap.push (viewObj a)).objs.size = s.heap.objs.size + 1 := Heap.size_push ..
  have hat' : (s.heap.push (viewObj a)).DictAt (intKind prog w) a kvs ep := hat.at' fun o e => Heap.get?_push_of_some _ e
  refine ⟨a, kvs, rfl, hs, hdo, ?_⟩
  refine call_filter (s := { s with heap := s.heap.push (viewObj a) }) (d := a) (kvs := kvs) (ep := ep) ⟨_, Heap.get?_push_size _ rfl, rfl, rfl⟩ hat' fun h' hext hf hit t tk => ?_
  have keep : ∀ {h'' : Heap}, (∀ b o, b ≠ (s.heap.push (viewObj a)).objs.size → h'.get? b = some o → h''.get? b = some o) → Ext s.heap h'' := fun hk b o e => by
    exact hk b o (ne_succ hz e) (hext b o (Heap.get?_push_of_some _ e))
  refine max_filter (s := { s with heap := h', toks := tk }) hh hpl (ne_succ hz (gi _ _ hg)) (Nat.succ_ne_self _) hf (hat'.at' fun o e => hext _ _ e) hit (fun i u h'' tk' hi hmax hk => ?_) fun h0 h'' tk' hk => ?_
  · have hki := kept_ints r i
    have hi' := hki.mp ⟨u, hi⟩
    refine .keep gi (.mk' (keep hk)) (.int _ _) ?_
    cases hfm : ds.filterMap some? with
    | nil => rw [hfm] at hi'; cases hi'
    | cons n ns =>
      rw [hfm] at hm hi'
      refine hm i hi' fun b hb => ?_
      obtain ⟨u', hu'⟩ := (kept_ints r b).mpr (by rw [hfm]; exact hb)
      exact hmax b u' hu'
  · refine .keep gi (.mk' (keep hk)) (.int _ _) ?_
    cases hfm : ds.filterMap some? with
    | nil => rw [hfm] at hm; exact hm
    | cons n ns =>
      obtain ⟨u', hu'⟩ := (kept_ints r n).mpr (by rw [hfm]; exact List.mem_cons_self ..)
      unfold keptAll at h0
      rw [h0] at hu'
      cases hu'

theorem eq_none {v : Value} {Q : Bool → Shared → Prop} (hu : A.units + 64 < cLine) (hv : plainV v) (h : ∀ b : Bool, (b = true ↔ v = .none) → Q b s) : wpAny (model prog w) A (eqBool v .none) Q E s := by
  rcases hv with rfl | ⟨i, t, rfl⟩
  · refine SeqAt.eqBoolOverData prog w A E s _ _ .none .none [] [] Q Reads.none Reads.none rfl rfl (by simp [PyData.depth]; omega) (h _ ?_)
    simp [PyData.eqv]
  · refine SeqAt.eqBoolOverData prog w A E s _ _ (.int i) .none [] [] Q (Reads.int i t) Reads.none rfl rfl (by simp [PyData.depth]; omega) (h _ ?_)
    simp [PyData.eqv]

theorem nonein_code {it d : Addr} {ep : Nat} {kvs : List (Int × Value)} {R : Result → Shared → Prop} (hh : A.handled = none) (hu : A.units + 66 < cLine) (hpl : ∀ p ∈ kvs, plainV p.2) (hne : d ≠ it) :
    ∀ (n i : Nat) (s : Shared), kvs.length - i = n → i ≤ kvs.length → s.heap.IsValIter it d i kvs.length ep → s.heap.DictAt (intKind prog w) d kvs ep →
      (∀ b h', (b = true ↔ ∃ p ∈ kvs.drop i, p.2 = Value.none) → (∀ c o, c ≠ it → s.heap.get? c = some o → h'.get? c = some o) → R (.ok (.ret (.bool b))) { s with heap := h' }) →
      codeAny (model prog w) A (.builtin "proto.contains_iter" ⟨[.ref it, .none], []⟩) R s := by
  intro n
  induction n with
  | zero =>
    intro i s hn hi hit hm hR
    have hin : i = kvs.length := by omega
    subst hin
    refine codeAny_builtin entry_contains_iter ?_
    rw [Around.under_plainId plain_contains_iter _]
    show wpAny _ A.in1 (pyNext (.ref it) >>= _) _ _ s
    refine wpAny_bind (wpAny_pyNext_values_end (A := A.in1) hh hit hm (by simp) fun h' hk => ?_)
    show wpAny _ A.in1 (rule _ >>= fun _ => ret (.bool false)) _ _ _
    exact wpAny_bind (wpAny_rule (wpAny_pure (hR false h' (by simp) fun c o hc e => hk c o hc e)))
  | succ n ih =>
    intro i s hn hi hit hm hR
    have hlt : i < kvs.length := by omega
    obtain ⟨⟨k, v⟩, hx⟩ : ∃ p, kvs[i]? = some p := ⟨kvs[i], by simp [hlt]⟩
    have hpv : plainV v := hpl (k, v) (List.mem_of_getElem? hx)
    have hdr : kvs.drop i = (k, v) :: kvs.drop (i + 1) := by
      rw [List.drop_eq_getElem_cons hlt]
      rw [List.getElem?_eq_getElem hlt] at hx
      rw [Option.some.inj hx]
    refine codeAny_builtin entry_contains_iter ?_
    rw [Around.under_plainId plain_contains_iter _]
    show wpAny _ A.in1 (pyNext (.ref it) >>= _) _ _ s
    refine wpAny_bind (wpAny_pyNext_values_item (A := A.in1) hit hm hx fun h' hit' hs' => ?_)
    have hk : ∀ c o, c ≠ it → s.heap.get? c = some o → h'.get? c = some o := fun c o hc e => hs'.extBut c o hc e
    refine wpAny_bind (eq_none (A := A.in1) (by show A.units + 1 + 64 < cLine; omega) hpv fun b hb => ?_)
    cases b with
    | true =>
      simp only [if_true]
      refine wpAny_bind (wpAny_rule (wpAny_pure (hR true h' ?_ hk)))
      rw [hdr]
      simp [hb.mp rfl]
    | false =>
      simp only [Bool.false_eq_true, if_false]
      refine wpAny_pure ⟨plainId_quiet plain_contains_iter _, ih (i + 1) _ (by omega) hlt hit' (hm.extBut hs'.extBut hne) fun b h'' hb' hk' => hR b h'' ?_ fun c o hc e => hk' c o hc (hk c o hc e)⟩
      rw [hb', hdr]
      have hvn : ¬ v = .none := fun q => by have := hb.mpr q; cases this
      simp [hvn]

theorem nonein_ok {v : Value} {es : List (Int × PV)} {D : Cb} (hh : A.handled = none) (hu : A.units + 66 < cLine) (gi : g.In s.heap) (rv : Rep prog w g v (.dict es)) (h : noneInW (.dict es) D) :
    ∃ a kvs, v = .ref a ∧ (a == sysModules) = false ∧ s.heap.DictOf (intKind prog w) a kvs ∧
      wpAny (model prog w) A (compareOp .In .none (.ref s.heap.objs.size)) (Post prog w g μ s D) noE { s with heap := s.heap.push (viewObj a) } := by
  obtain ⟨a, o, kvs, ds, rfl, hs, hg, hd, r, rfl⟩ := rv.isDict
  have hlen : kvs.length = ds.length := by have := r.length; simpa using this
  have hdo := hd _ (gi _ _ hg)
  obtain ⟨ep, hat⟩ := at_of hdo
  simp only [noneInW, vals_of_zip hlen] at h
  obtain ⟨hsz, hok, hm⟩ := h
  have hok' : ∀ d ∈ ds, valOk d = true := fun d hd' => by
    rw [← vals_of_zip hlen] at hd'
    obtain ⟨p, hp, rfl⟩ := List.mem_map.mp hd'
    exact List.all_eq_true.mp hok p hp
  have hpl := plain_vals r hok'
  have alt : a < s.heap.objs.size := Heap.lt_size (gi _ _ hg)
  have hz : (s.heap.push (viewObj a)).objs.size = s.heap.objs.size + 1 := Heap.size_push ..
  have hat' : (s.heap.push (viewObj a)).DictAt (intKind prog w) a kvs ep := hat.at' fun o e => Heap.get?_push_of_some _ e
  have hview : (s.heap.push (viewObj a)).IsValuesView s.heap.objs.size a := ⟨_, Heap.get?_push_size _ rfl, rfl, rfl⟩
  refine ⟨a, kvs, rfl, hs, hdo, ?_⟩
  show wpAny _ A (do return Value.bool (← contains (.ref s.heap.objs.size) .none)) _ _ _
  refine wpAny_bind ?_
  unfold contains
  refine wpAny_holding ?_
  show wpAny _ A (specialOf (.ref s.heap.objs.size) (Str.ofString "__contains__") >>= _) _ _ _
  refine wpAny_bind (wpAny_specialOf (s := { s with heap := s.heap.push (viewObj a) }) hview.typeIs no_contains ?_)
  show wpAny _ A (callSpecialUnlessNone? (.ref s.heap.objs.size) (Str.ofString "__contains__") [.none] _ >>= _) _ _ _
  unfold callSpecialUnlessNone?
  refine wpAny_bind (wpAny_bind (wpAny_specialOf (s := { s with heap := s.heap.push (viewObj a) }) hview.typeIs no_contains ?_))
  refine wpAny_pure ?_
  refine wpAny_bind (wpAny_rule ?_)
  refine wpAny_bind (wpAny_tryCatch (wpAny_pyIter_values (s := { s with heap := s.heap.push (viewObj a) }) hview hat' ?_))
  refine wpAny_bind (wpAny_runValue ?_)
  have hie : ((s.heap.push (viewObj a)).push { cls := .type "dict_valueiterator", data := .fields #[.ref a, .int 0 0, .int kvs.length 0, .int ep 0] }).IsValIter (s.heap.push (viewObj a)).objs.size a 0 kvs.length ep :=
    ⟨_, Heap.get?_push_size _ rfl, rfl, rfl⟩
  refine nonein_code hh hu hpl (ne_succ hz (gi _ _ hg)) kvs.length 0 _ (by omega) (Nat.zero_le _) hie (hat'.at' fun o e => Heap.get?_push_of_some _ e) fun b h' hb hk => ?_
  refine wpAny_pure (wpAny_pure ?_)
  have hext : Ext s.heap h' := fun c o e => hk c o (ne_succ hz e) (Heap.get?_push_of_some _ (Heap.get?_push_of_some _ e))
  refine .keep gi (.mk' hext) (.bool b) (both_dec hm ?_)
  rw [hb]
  simp only [List.drop_zero]
  constructor
  · rintro ⟨p, hp, he⟩
    obtain ⟨i, hi, e⟩ := List.mem_iff_getElem.mp hp
    have hi' : i < ds.length := by omega
    obtain ⟨v, hv, rv⟩ := r.get (List.getElem?_eq_getElem hi')
    rw [List.getElem?_map, List.getElem?_eq_getElem hi, e] at hv
    have : p.2 = v := Option.some.inj hv
    rw [← this, he] at rv
    have : ds[i] = .none := by cases hq : ds[i] <;> rw [hq] at rv <;> cases rv <;> rfl
    rw [← this]; exact List.getElem_mem _
  · intro hm'
    obtain ⟨i, hi, e⟩ := List.mem_iff_getElem.mp hm'
    obtain ⟨v, hv, rv⟩ := r.get (List.getElem?_eq_getElem hi)
    have hik : i < kvs.length := by omega
    rw [List.getElem?_map, List.getElem?_eq_getElem hik] at hv
    refine ⟨kvs[i], List.getElem_mem _, ?_⟩
    have hv' : kvs[i].2 = v := Option.some.inj hv
    rw [hv']
    rw [e] at rv
    cases rv
    rfl
end
end Cut20
namespace Cut20

section
variable {prog : Program} {w : World} {mg mb : Str → Option Value} {tab : Str → Option Int} {call : Nat → List PV → Cb → Prop} {k : Nat} {sc : Scope}
  {A : Around} {env : Env} {g μ : Zone} {σ : Sg} {s : Shared} {D : Cb} {r : Rec}

theorem Room.u64 (R : Room k A) : A.units + 64 < cLine := by have := R.units; omega
theorem Room.u66 (R : Room k A) : A.units + 66 < cLine := by have := R.units; omega

theorem tab_run {b : Expr} {Q : Value → Shared → Prop} (h : asTab sc b = true) (F : Fit sc env) (a : At prog w mg mb tab g μ env σ s) (hq : ∀ v, mg (Str.ofString "EXACT_TOKEN_TYPES") = some v → Q v s) :
    wpAny (model prog w) A (eval b env) Q noE s := by
  obtain ⟨p, rfl, hg⟩ := asTab_of h
  obtain ⟨x, f, e, _⟩ := a.stat.tabl
  exact name_glob F a hg e (by decide) (hq _ e)

/-- one comparison, after both sides -/
theorem cmp_pair {op : CmpOp} {l b : Expr} {ie : IE} (hr : SndR prog w mg mb tab call k r) (hm : behindInMarks op b = false) (h : cCmp r sc l [op] [b] = some ie) (R : Room k A) (F : Fit sc env)
    (a : At prog w mg mb tab g μ env σ s) (hw : W tab call ie σ D) :
    wpAny (model prog w) A (eval l env) (fun x s₁ => wpAny (model prog w) A (eval b env) (fun y s₂ => wpAny (model prog w) A (compareOp op x y) (Post prog w g μ s D) noE s₂) noE s₁) noE s := by
  have gen : ∀ {o : CmpO} {x y : IE}, cCo op = some o → r sc l = some x → r sc b = some y → W tab call (.cmp o x y) σ D →
      wpAny (model prog w) A (eval l env) (fun x s₁ => wpAny (model prog w) A (eval b env) (fun y s₂ => wpAny (model prog w) A (compareOp op x y) (Post prog w g μ s D) noE s₂) noE s₁) noE s := by
    intro o x y ho hx hy hw
    obtain rfl := cCo_of ho
    exact (hr _ _ _ hx).1.run R F a hw fun g₁ v₁ d₁ s₁ st₁ a₁ r₁ hw₁ => (hr _ _ _ hy).1.run R F a₁ hw₁ fun g₂ v₂ d₂ s₂ st₂ a₂ r₂ hw₂ =>
      post_after (st₁.trans st₂) (cmp_ok a₂.gin a₂.min R.u64 (r₁.on st₂) r₂ hw₂)
  simp only [cCmp, hm, Bool.false_eq_true, if_false] at h
  split at h
  · split at h
    · rename_i ht
      simp only [Option.map_eq_some_iff] at h
      obtain ⟨x, hx, rfl⟩ := h
      exact (hr _ _ _ hx).1.run R F a hw fun g₁ v₁ d₁ s₁ st₁ a₁ r₁ hw₁ => tab_run ht F a₁ fun v hv => post_after st₁ (tab_in a₁.gin a₁.stat hv r₁ hw₁)
    · split at h
      · rename_i hn
        simp only [Option.bind_eq_some_iff, Option.map_eq_some_iff] at h
        obtain ⟨o, ho, x, hx, rfl⟩ := h
        obtain ⟨m, ap, p, rfl, h1, h2, h3⟩ := asValues_of ho
        obtain ⟨x', p', rfl⟩ := isNone_of hn
        refine wpAny_Constant_none (values_run h1 h2 h3 ((hr _ _ _ hx).1.run R F a hw fun g₁ v₁ d₁ s₁ st₁ a₁ r₁ hw₁ => ?_))
        cases d₁ with
        | dict es =>
          obtain ⟨aa, kvs, rfl, e1, e2, e3⟩ := nonein_ok (μ := μ) R.handled R.u66 a₁.gin (r₁.frz trivial) hw₁
          exact ⟨aa, kvs, rfl, e1, e2, wpAny_mono e3 (fun _ _ p => p.after st₁) fun _ _ x => x⟩
        | _ => exact hw₁.elim
      · simp only [Option.bind_eq_bind, Option.bind_eq_some_iff, Option.some.injEq] at h
        obtain ⟨x, hx, y, hy, rfl⟩ := h
        exact gen rfl hx hy hw
  · simp only [Option.bind_eq_bind, Option.bind_eq_some_iff, Option.some.injEq] at h
    obtain ⟨o, ho, x, hx, y, hy, rfl⟩ := h
    exact gen ho hx hy hw

noncomputable def ChainOn (prog : Program) (w : World) (A : Around) (env : Env) (g μ : Zone) (s : Shared) (D : Cb) (c : Expr) (u v : Value) (s₂ : Shared) : Prop :=
  wpAny (model prog w) A (compareOp .LtE u v) (fun c' s₃ => wpAny (model prog w) A (truthy c') (fun t s₄ =>
      (t = true → wpAny (model prog w) A (eval c env) (fun c'' s₅ => wpAny (model prog w) A (compareOp .Lt v c'') (Post prog w g μ s D) noE s₅) noE s₄) ∧ (t = false → c' = .bool false ∧ D (.bool false) ∧ ∃ g', Step g s g' s₄)) noE s₃) noE s₂
theorem chain_run {l b c : Expr} {x y z : IE} (hr : SndR prog w mg mb tab call k r) (hx : r sc l = some x) (hy : r sc b = some y) (hz : r sc c = some z) (R : Room k A) (F : Fit sc env)
    (a : At prog w mg mb tab g μ env σ s) (hw : W tab call (.chain x y z) σ D) :
    wpAny (model prog w) A (eval l env) (fun u s₁ => wpAny (model prog w) A (eval b env) (fun v s₂ => ChainOn prog w A env g μ s D c u v s₂) noE s₁) noE s := by
  refine (hr _ _ _ hx).1.run R F a hw fun g₁ v₁ d₁ s₁ st₁ a₁ r₁ hw₁ => (hr _ _ _ hy).1.run R F a₁ hw₁ fun g₂ v₂ d₂ s₂ st₂ a₂ r₂ hw₂ => ?_
  cases d₁ with
  | int i =>
    cases d₂ with
    | int j =>
      obtain ⟨t, rfl⟩ := r₁.isInt
      obtain ⟨u, rfl⟩ := r₂.isInt
      refine PySem.P.le_int (wpAny_truthy_bool ⟨fun ht => ?_, fun ht => ?_⟩)
      · have hij : i ≤ j := by simpa using ht
        refine (hr _ _ _ hz).1.run R F a₂ (hw₂.1 hij) fun g₃ v₃ d₃ s₃ st₃ a₃ r₃ hw₃ => ?_
        cases d₃ with
        | int m =>
          obtain ⟨u', rfl⟩ := r₃.isInt
          exact PySem.P.lt_int (Post.after ((st₁.trans st₂).trans st₃) (.here a₃.gin (.bool _) (both_dec hw₃ (by simp))))
        | _ => exact hw₃.elim
      · have hij : ¬ i ≤ j := by simpa using ht
        exact ⟨by simpa using hij, hw₂.2 hij, g₂, st₁.trans st₂⟩
    | _ => exact hw₂.elim
  | _ => cases d₂ <;> exact hw₂.elim

theorem cmp_snd (hr : SndR prog w mg mb tab call k r) {l : Expr} {ops : List CmpOp} {rs : List Expr} {pos : Pos} {ie : IE} (h : cCmp r sc l ops rs = some ie) : SndB prog w mg mb tab call k sc (.Compare l ops rs pos) ie := by
  have h0 := h
  unfold cCmp at h
  split at h
  · rename_i op b
    split at h
    · cases h
    · rename_i hm
      have hm' : behindInMarks op b = false := by simpa using hm
      refine ⟨⟨fun {A env g μ σ s} R F a D hw => wpAny_Compare1 (cmp_pair hr hm' h0 R F a hw) hm'⟩, ⟨fun {A env g μ σ s} R F a T hw => wpAny_isTrue_Compare1 ?_ hm'⟩⟩
      refine wpAny_mono (cmp_pair hr hm' h0 R F a hw) (fun x s₁ h₁ => wpAny_mono h₁ (fun y s₂ h₂ => wpAny_mono h₂ (fun c s₃ ⟨g₃, d, st, rd, hd⟩ => truth_ok rd hd fun b hb => ⟨g₃, st, hb⟩) fun _ _ x => x) fun _ _ x => x) fun _ _ x => x
  · rename_i b c
    split at h
    · cases h
    · rename_i hm
      have hm' : lastMarks [.LtE, .Lt] [b, c] = false := by simpa [lastMarks] using hm
      simp only [Option.bind_eq_bind, Option.bind_eq_some_iff, Option.some.injEq] at h
      obtain ⟨x, hx, y, hy, z, hz, rfl⟩ := h
      refine ⟨⟨fun {A env g μ σ s} R F a D hw => ?_⟩, ⟨fun {A env g μ σ s} R F a T hw => ?_⟩⟩
      · refine Compare_chain (wpAny_mono (chain_run hr hx hy hz R F a hw) (fun u s₁ h₁ => chain_link (wpAny_mono h₁ (fun v s₂ h₂ => wpAny_mono h₂ (fun c' s₃ h₃ => wpAny_mono h₃ (fun t s₄ h₄ => ?_) fun _ _ x => x) fun _ _ x => x) fun _ _ x => x)) fun _ _ x => x) hm'
        cases t with
        | true => exact chain_last (h₄.1 rfl)
        | false =>
          obtain ⟨rfl, hd, g', st⟩ := h₄.2 rfl
          exact ⟨g', _, st, .fr (.bool _), hd⟩
      · refine isTrue_chain (wpAny_mono (chain_run hr hx hy hz R F a hw) (fun u s₁ h₁ => test_link (wpAny_mono h₁ (fun v s₂ h₂ => wpAny_mono h₂ (fun c' s₃ h₃ => wpAny_mono h₃ (fun t s₄ h₄ => ?_) fun _ _ x => x) fun _ _ x => x) fun _ _ x => x)) fun _ _ x => x) hm'
        cases t with
        | true => exact test_last (wpAny_mono (h₄.1 rfl) (fun v s₅ h₅ => wpAny_mono h₅ (fun c s₆ ⟨g₃, d, st, rd, hd⟩ => truth_ok rd hd fun b hb => ⟨g₃, st, hb⟩) fun _ _ x => x) fun _ _ x => x)
        | false =>
          obtain ⟨rfl, hd, g', st⟩ := h₄.2 rfl
          exact ⟨g', st, hd⟩
  · cases h
end
end Cut20
namespace Cut20

noncomputable def NoS (r : Rec) : Prop := ∀ sc e ie, r sc e = some ie → noStar e = true
section
variable {prog : Program} {w : World} {mg mb : Str → Option Value} {tab : Str → Option Int} {call : Nat → List PV → Cb → Prop} {k : Nat} {sc : Scope}
  {A : Around} {env : Env} {g μ : Zone} {σ : Sg} {s : Shared} {D : Cb} {r : Rec}

theorem spl_nil {pos : Pos} {Q : List Value → Shared → Prop} (h : Q [] s) : wpAny (model prog w) A (spliced (backTo pos (starEach [] env))) Q noE s := wpAny_items_nil h
theorem spl_cons {pos : Pos} {e : Expr} {rest : List Expr} {Q : List Value → Shared → Prop} (he : noStar e = true)
    (h : wpAny (model prog w) A (eval e env) (fun v s₁ => wpAny (model prog w) A (spliced (backTo pos (starEach rest env))) (fun vs s₂ => Q (v :: vs) s₂) noE s₁) noE s) :
    wpAny (model prog w) A (spliced (backTo pos (starEach (e :: rest) env))) Q noE s := wpAny_items_cons h (starEach_cons he rest env)

theorem texts_run {pos : Pos} (gi : g.In s.heap) : ∀ (es : List Expr) (xs : List Str) (s : Shared) {Q : List Value → Shared → Prop}, allTexts es = some xs →
    (∀ vs tk, RepAll prog w g vs (xs.map .str) → Q vs { s with toks := tk }) → wpAny (model prog w) A (spliced (backTo pos (starEach es env))) Q noE s
  | [], xs, s, Q, h, hq => by
    cases h
    exact spl_nil (hq [] s.toks .nil)
  | e :: es, xs, s, Q, h, hq => by
    unfold allTexts at h
    split at h
    · rename_i h'; cases h'
    · rename_i x kk p rest h'
      cases h'
      simp only [Option.map_eq_some_iff] at h
      obtain ⟨ys, hy, rfl⟩ := h
      exact spl_cons rfl (wpAny_Constant_str (texts_run gi es ys _ hy fun vs tk hvs => hq _ tk (.cons (.str _ _) hvs)))
    · cases h

theorem tup_snd (hr : SndR prog w mg mb tab call k r) (hn : NoS r) {es : List Expr} {x : Nat} {pos : Pos} {ie : IE} (h : cTup r sc es = some ie) : Snd prog w mg mb tab call k sc (.Tuple es x pos) ie := by
  refine ⟨fun {A env g μ σ s} R F a D hw => wpAny_Tuple ?_⟩
  unfold cTup at h
  split at h
  · rename_i xs hx
    cases h
    refine texts_run a.gin es xs s hx fun vs tk hvs => ⟨?_, ?_⟩
    · have := hvs.length
      simp at this
      exact sizeLine_le (by have := hw.1; omega)
    · exact .newTup a.gin hvs hw.2
  · split at h
    · rename_i e₁ e₂
      simp only [Option.bind_eq_bind, Option.bind_eq_some_iff, Option.some.injEq] at h
      obtain ⟨x₁, h₁, x₂, h₂, rfl⟩ := h
      refine spl_cons (hn _ _ _ h₁) ((hr _ _ _ h₁).1.run R F a hw fun g₁ v₁ d₁ s₁ st₁ a₁ r₁ hw₁ => ?_)
      refine spl_cons (hn _ _ _ h₂) ((hr _ _ _ h₂).1.run R F a₁ hw₁ fun g₂ v₂ d₂ s₂ st₂ a₂ r₂ hw₂ => spl_nil ⟨sizeLine_le (by simp), ?_⟩)
      obtain ⟨f1, f2, q⟩ := hw₂
      exact Post.after (st₁.trans st₂) (.newTup (t := s₂.toks) a₂.gin (.cons ((r₁.on st₂).frz f1) (.cons (r₂.frz f2) .nil)) q)
    · cases h
theorem list_snd (hr : SndR prog w mg mb tab call k r) (hn : NoS r) {es : List Expr} {pos : Pos} {ie : IE} (h : cList r sc es = some ie) : Snd prog w mg mb tab call k sc (.List es pos) ie := by
  refine ⟨fun {A env g μ σ s} R F a D hw => wpAny_List ?_⟩
  unfold cList at h
  split at h
  · cases h
    exact spl_nil ⟨Nat.zero_le _, .newList (t := s.toks) a.gin .nil hw⟩
  · rename_i e
    simp only [Option.map_eq_some_iff] at h
    obtain ⟨x, hx, rfl⟩ := h
    refine spl_cons (hn _ _ _ hx) ((hr _ _ _ hx).1.run R F a hw fun g₁ v₁ d₁ s₁ st₁ a₁ r₁ hw₁ => spl_nil ⟨sizeLine_le (by simp), ?_⟩)
    exact Post.after st₁ (.newList (t := s₁.toks) a₁.gin (.cons (r₁.frz hw₁.1) .nil) hw₁.2)
  · cases h

theorem item_mono {o i : Value} {Q Q' : Value → Shared → Prop} (h : ItemOn (model prog w) A noE o i Q s) (hq : ∀ v s', Q v s' → Q' v s') : ItemOn (model prog w) A noE o i Q' s :=
  let ⟨T, id, a, b, c⟩ := h; ⟨T, id, a, b, wpAny_mono c hq fun _ _ x => x⟩
theorem sub_snd (hr : SndR prog w mg mb tab call k r) {v i : Expr} {pos : Pos} {ie : IE} (h : cSub r sc v i = some ie) : Snd prog w mg mb tab call k sc (.Subscript v i pos) ie := by
  refine ⟨fun {A env g μ σ s} R F a D hw => sub_any ?_⟩
  unfold cSub at h
  split at h
  · rename_i ht
    split at h
    · simp only [Option.map_eq_some_iff] at h
      obtain ⟨x, hx, rfl⟩ := h
      refine tab_run ht F a fun tv htv => (hr _ _ _ hx).1.run R F a hw fun g₁ v₁ d₁ s₁ st₁ a₁ r₁ hw₁ => ?_
      exact item_mono (tab_item a₁.gin a₁.stat htv r₁ hw₁) fun _ _ p => p.after st₁
    · cases h
  · split at h
    · rename_i lo hi p
      simp only [Option.bind_eq_bind, Option.bind_eq_some_iff, Option.some.injEq] at h
      obtain ⟨x, hx, y, hy, z, hz, rfl⟩ := h
      refine (hr _ _ _ hx).1.run R F a hw fun g₁ v₁ d₁ s₁ st₁ a₁ r₁ hw₁ => wpAny_Slice ?_
      rw [evalPart_some, evalPart_some, evalPart_none]
      refine (hr _ _ _ hy).1.run R F a₁ hw₁ fun g₂ v₂ d₂ s₂ st₂ a₂ r₂ hw₂ => (hr _ _ _ hz).1.run R F a₂ hw₂ fun g₃ v₃ d₃ s₃ st₃ a₃ r₃ hw₃ => wpAny_pure ?_
      exact item_mono (slice2_ok a₃.gin ((r₁.on st₂).on st₃) (r₂.on st₃) r₃ hw₃) fun _ _ p => p.after ((st₁.trans st₂).trans st₃)
    · rename_i hi p
      simp only [Option.bind_eq_bind, Option.bind_eq_some_iff, Option.some.injEq] at h
      obtain ⟨x, hx, z, hz, rfl⟩ := h
      refine (hr _ _ _ hx).1.run R F a hw fun g₁ v₁ d₁ s₁ st₁ a₁ r₁ hw₁ => wpAny_Slice ?_
      rw [evalPart_none, evalPart_some]
      refine wpAny_pure ((hr _ _ _ hz).1.run R F a₁ hw₁ fun g₃ v₃ d₃ s₃ st₃ a₃ r₃ hw₃ => wpAny_pure ?_)
      exact item_mono (sliceTo_ok a₃.gin (r₁.on st₃) r₃ hw₃) fun _ _ p => p.after (st₁.trans st₃)
    · rename_i c p
      split at h
      · rename_i hc
        simp only [Option.map_eq_some_iff] at h
        obtain ⟨x, hx, rfl⟩ := h
        refine (hr _ _ _ hx).1.run R F a hw fun g₁ v₁ d₁ s₁ st₁ a₁ r₁ hw₁ => wpAny_Slice ?_
        rw [evalPart_none, evalPart_some]
        refine wpAny_pure (wpAny_pure ?_)
        obtain ⟨kk, pp, qq, rfl⟩ := minusOne_of hc
        refine wpAny_UnaryOp (wpAny_Constant_int (PySem.P.neg_int ?_))
        have gi' : g₁.In ({ s₁ with toks := s₁.toks + 1 + 1 } : Shared).heap := a₁.gin
        exact item_mono (rev_ok (s := { s₁ with toks := s₁.toks + 1 + 1 }) gi' r₁ hw₁) fun _ _ p => Post.after (st₁.trans (.of a₁.gin .tok)) p
      · cases h
    · cases h
    · simp only [Option.bind_eq_bind, Option.bind_eq_some_iff, Option.some.injEq] at h
      obtain ⟨x, hx, y, hy, rfl⟩ := h
      refine (hr _ _ _ hx).1.run R F a hw fun g₁ v₁ d₁ s₁ st₁ a₁ r₁ hw₁ => (hr _ _ _ hy).1.run R F a₁ hw₁ fun g₂ v₂ d₂ s₂ st₂ a₂ r₂ hw₂ => ?_
      exact item_mono (list_item a₂.gin a₂.min (r₁.on st₂) r₂ hw₂) fun _ _ p => p.after (st₁.trans st₂)
end
end Cut20
namespace Cut20

/-! Calls. -/
noncomputable def plainNames : Bool := (fnames ++ bnames.map (·.1)).all fun y => !(y == Str.ofString "__debug__")
theorem fid_mem {f : Str} {i : Nat} (h : fid f = some i) : f ∈ fnames := by
  unfold fid at h
  rw [List.findIdx?_eq_some_iff_getElem] at h
  obtain ⟨hi, he, _⟩ := h
  have e : fnames[i] = f := by simpa using he
  rw [← e]; exact List.getElem_mem _
theorem plain_of {f : Str} (h : f ∈ fnames ++ bnames.map (·.1)) : (f == Str.ofString "__debug__") = false := by
  have b : plainNames = true := by decide +kernel
  have c := List.all_eq_true.mp b f h
  simpa using c
section
variable {prog : Program} {w : World} {mg mb : Str → Option Value} {tab : Str → Option Int} {call : Nat → List PV → Cb → Prop} {k : Nat} {sc : Scope}
  {A : Around} {env : Env} {g μ : Zone} {σ : Sg} {s : Shared} {D : Cb} {r : Rec}

theorem own_call {f : Str} {i : Nat} {p pos : Pos} {e : Expr} {as : List Expr} {Q : Value → Shared → Prop} (hf : fid f = some i) (hg : isGl sc f = true) (F : Fit sc env) (a : At prog w mg mb tab g μ env σ s) (hs : noStar e = true)
    (h : ∀ fv, mg f = some fv → wpAny (model prog w) A (spliced (backTo pos (starEach (e :: as) env))) (fun vs s₁ => Ext s.heap s₁.heap ∧ wpAny (model prog w) A (PySem.call fv vs) Q noE s₁) noE s) :
    wpAny (model prog w) A (eval (.Call (.Name f p) (e :: as) [] pos) env) Q noE s := by
  obtain ⟨fa, o, params, body, sc', pm, cd, doc, hm, ho, hd, _⟩ := a.stat.fns f i hf
  refine wpAny_Call_NameR (name_glob F a hg hm (plain_of (List.mem_append_left _ (fid_mem hf))) ?_)
  have h' := h _ hm
  rw [starEach_cons hs] at h' ⊢
  exact Calls.callWith_function (o := o) (fd := Calls.docDef f params body sc' pm cd doc) (Calls.evalArgs_plain (wpAny_mono h' (fun vs s₁ ⟨e₁, h₁⟩ => ⟨⟨e₁ _ _ ho, hd⟩, h₁⟩) fun _ _ x => x))
theorem builtin_call {f : Str} {id : String} {p pos : Pos} {e : Expr} {as : List Expr} {Q : Value → Shared → Prop} (hf : (f, .builtin id) ∈ bnames) (hg : isGl sc f = true) (F : Fit sc env) (a : At prog w mg mb tab g μ env σ s) (hs : noStar e = true) (hp : as.all noStar = true)
    (h : wpAny (model prog w) A (spliced (backTo pos (starEach (e :: as) env))) (fun vs s₁ => wpAny (model prog w) A (PySem.call (.builtin id) vs) Q noE s₁) noE s) :
    wpAny (model prog w) A (eval (.Call (.Name f p) (e :: as) [] pos) env) Q noE s := by
  refine wpAny_Call_NameR (name_built F a hg hf (plain_of (List.mem_append_right _ (List.mem_map.mpr ⟨_, hf, rfl⟩))) ?_)
  have h1 := plainArgs pos env (e :: as) (by simp [hs, hp])
  rw [starEach_cons hs] at h h1 ⊢
  exact Calls.callWith_builtin h1 (Calls.evalArgs_plain h)
theorem type_call {f : Str} {id : String} {p pos : Pos} {e : Expr} {as : List Expr} {Q : Value → Shared → Prop} (hf : (f, .type id) ∈ bnames) (hg : isGl sc f = true) (F : Fit sc env) (a : At prog w mg mb tab g μ env σ s) (hs : noStar e = true) (hp : as.all noStar = true)
    (h : wpAny (model prog w) A (spliced (backTo pos (starEach (e :: as) env))) (fun vs s₁ => wpAny (model prog w) A (PySem.call (.type id) vs) Q noE s₁) noE s) :
    wpAny (model prog w) A (eval (.Call (.Name f p) (e :: as) [] pos) env) Q noE s := by
  refine wpAny_Call_NameR (name_built F a hg hf (plain_of (List.mem_append_right _ (List.mem_map.mpr ⟨_, hf, rfl⟩))) ?_)
  have h1 := plainArgs pos env (e :: as) (by simp [hs, hp])
  rw [starEach_cons hs] at h h1 ⊢
  exact PySem.callWith_type h1 (Calls.evalArgs_plain h)

/-- one, two, three arguments of a call -/
theorem arg1 {a₁ : Expr} {x₁ : IE} {pos : Pos} {C : PV → Cb → Prop} {Q : List Value → Shared → Prop} (hr : SndR prog w mg mb tab call k r) (hn : NoS r) (h₁ : r sc a₁ = some x₁) (R : Room k A) (F : Fit sc env) (a : At prog w mg mb tab g μ env σ s)
    (hw : W tab call x₁ σ fun d₁ => C d₁ D) (hq : ∀ v₁ d₁ g' s', Step g s g' s' → At prog w mg mb tab g' μ env σ s' → RepM prog w g' μ v₁ d₁ → C d₁ D → Q [v₁] s') :
    wpAny (model prog w) A (spliced (backTo pos (starEach [a₁] env))) Q noE s :=
  spl_cons (hn _ _ _ h₁) ((hr _ _ _ h₁).1.run R F a hw fun g₁ v₁ d₁ s₁ st₁ a₁ r₁ hw₁ => spl_nil (hq _ _ _ _ st₁ a₁ r₁ hw₁))
theorem arg2 {a₁ a₂ : Expr} {x₁ x₂ : IE} {pos : Pos} {C : PV → PV → Cb → Prop} {Q : List Value → Shared → Prop} (hr : SndR prog w mg mb tab call k r) (hn : NoS r) (h₁ : r sc a₁ = some x₁) (h₂ : r sc a₂ = some x₂) (R : Room k A) (F : Fit sc env) (a : At prog w mg mb tab g μ env σ s)
    (hw : W tab call x₁ σ fun d₁ => W tab call x₂ σ fun d₂ => C d₁ d₂ D) (hq : ∀ v₁ d₁ v₂ d₂ g' s', Step g s g' s' → At prog w mg mb tab g' μ env σ s' → RepM prog w g' μ v₁ d₁ → RepM prog w g' μ v₂ d₂ → C d₁ d₂ D → Q [v₁, v₂] s') :
    wpAny (model prog w) A (spliced (backTo pos (starEach [a₁, a₂] env))) Q noE s :=
  spl_cons (hn _ _ _ h₁) ((hr _ _ _ h₁).1.run R F a hw fun g₁ v₁ d₁ s₁ st₁ a₁ r₁ hw₁ => spl_cons (hn _ _ _ h₂) ((hr _ _ _ h₂).1.run R F a₁ hw₁ fun g₂ v₂ d₂ s₂ st₂ a₂ r₂ hw₂ =>
    spl_nil (hq _ _ _ _ _ _ (st₁.trans st₂) a₂ (r₁.on st₂) r₂ hw₂)))
theorem arg3 {a₁ a₂ a₃ : Expr} {x₁ x₂ x₃ : IE} {pos : Pos} {C : PV → PV → PV → Cb → Prop} {Q : List Value → Shared → Prop} (hr : SndR prog w mg mb tab call k r) (hn : NoS r) (h₁ : r sc a₁ = some x₁) (h₂ : r sc a₂ = some x₂) (h₃ : r sc a₃ = some x₃)
    (R : Room k A) (F : Fit sc env) (a : At prog w mg mb tab g μ env σ s)
    (hw : W tab call x₁ σ fun d₁ => W tab call x₂ σ fun d₂ => W tab call x₃ σ fun d₃ => C d₁ d₂ d₃ D)
    (hq : ∀ v₁ d₁ v₂ d₂ v₃ d₃ g' s', Step g s g' s' → At prog w mg mb tab g' μ env σ s' → RepM prog w g' μ v₁ d₁ → RepM prog w g' μ v₂ d₂ → RepM prog w g' μ v₃ d₃ → C d₁ d₂ d₃ D → Q [v₁, v₂, v₃] s') :
    wpAny (model prog w) A (spliced (backTo pos (starEach [a₁, a₂, a₃] env))) Q noE s :=
  spl_cons (hn _ _ _ h₁) ((hr _ _ _ h₁).1.run R F a hw fun g₁ v₁ d₁ s₁ st₁ a₁ r₁ hw₁ => spl_cons (hn _ _ _ h₂) ((hr _ _ _ h₂).1.run R F a₁ hw₁ fun g₂ v₂ d₂ s₂ st₂ a₂ r₂ hw₂ =>
    spl_cons (hn _ _ _ h₃) ((hr _ _ _ h₃).1.run R F a₂ hw₂ fun g₃ v₃ d₃ s₃ st₃ a₃ r₃ hw₃ => spl_nil (hq _ _ _ _ _ _ _ _ ((st₁.trans st₂).trans st₃) a₃ ((r₁.on st₂).on st₃) (r₂.on st₃) r₃ hw₃))))

/-- the end of a call of the text's own -/
theorem own_end {f : Str} {i : Nat} {fv : Value} {vs : List Value} {ds : List PV} {g₁ : Zone} {s₁ : Shared} (hc : CallOk prog w mg mb tab call k) (hf : fid f = some i) (hm : mg f = some fv) (R : Room k A) (st : Step g s g₁ s₁) (a : At prog w mg mb tab g₁ μ env σ s₁)
    (hr : RepAll prog w g₁ vs ds) (hw : call i ds D) : Ext s.heap s₁.heap ∧ wpAny (model prog w) A (PySem.call fv vs) (Post prog w g μ s D) noE s₁ :=
  ⟨st.keep.ext, wpAny_mono (hc f i fv hf hm R a.gin a.stat hr hw) (fun v s' ⟨g', d, st', r, q⟩ => ⟨g', d, st.trans st', .fr r, q⟩) fun _ _ x => x⟩

theorem max_name : (Str.ofString "max", Value.builtin "max") ∈ bnames := by simp [bnames]
theorem call_snd (hr : SndR prog w mg mb tab call k r) (hn : NoS r) (hc : CallOk prog w mg mb tab call k) {f : Str} {p pos : Pos} {as : List Expr} {ks : List Keyword} {ie : IE} (h : cCall r sc f as ks = some ie) : Snd prog w mg mb tab call k sc (.Call (.Name f p) as ks pos) ie := by
  unfold cCall at h
  split at h
  · cases h
  · rename_i hg
    have hg' : isGl sc f = true := by simpa using hg
    split at h
    · split at h
      · rename_i i hf
        split at h
        · rename_i e₁
          simp only [Option.bind_eq_bind, Option.bind_eq_some_iff, Option.some.injEq] at h
          obtain ⟨x₁, h₁, rfl⟩ := h
          exact ⟨fun R F a D hw => own_call hf hg' F a (hn _ _ _ h₁) fun fv hm => arg1 (C := fun d D => d.fz ∧ call i [d] D) hr hn h₁ R F a hw fun v₁ d₁ g' s' st a' r₁ hw' => own_end hc hf hm R st a' (.cons (r₁.frz hw'.1) .nil) hw'.2⟩
        · rename_i e₁ e₂
          simp only [Option.bind_eq_bind, Option.bind_eq_some_iff, Option.some.injEq] at h
          obtain ⟨x₁, h₁, x₂, h₂, rfl⟩ := h
          exact ⟨fun R F a D hw => own_call hf hg' F a (hn _ _ _ h₁) fun fv hm => arg2 (C := fun d e D => d.fz ∧ e.fz ∧ call i [d, e] D) hr hn h₁ h₂ R F a hw fun v₁ d₁ v₂ d₂ g' s' st a' r₁ r₂ hw' =>
            own_end hc hf hm R st a' (.cons (r₁.frz hw'.1) (.cons (r₂.frz hw'.2.1) .nil)) hw'.2.2⟩
        · rename_i e₁ e₂ e₃
          simp only [Option.bind_eq_bind, Option.bind_eq_some_iff, Option.some.injEq] at h
          obtain ⟨x₁, h₁, x₂, h₂, x₃, h₃, rfl⟩ := h
          exact ⟨fun R F a D hw => own_call hf hg' F a (hn _ _ _ h₁) fun fv hm => arg3 (C := fun d e m D => d.fz ∧ e.fz ∧ m.fz ∧ call i [d, e, m] D) hr hn h₁ h₂ h₃ R F a hw fun v₁ d₁ v₂ d₂ v₃ d₃ g' s' st a' r₁ r₂ r₃ hw' =>
            own_end hc hf hm R st a' (.cons (r₁.frz hw'.1) (.cons (r₂.frz hw'.2.1) (.cons (r₃.frz hw'.2.2.1) .nil))) hw'.2.2.2⟩
        · rename_i e₁ e₂ e₃ e₄
          simp only [Option.bind_eq_bind, Option.bind_eq_some_iff, Option.some.injEq] at h
          obtain ⟨x₁, h₁, x₂, h₂, x₃, h₃, x₄, h₄, rfl⟩ := h
          refine ⟨fun {A env g μ σ s} R F a D hw => own_call hf hg' F a (hn _ _ _ h₁) fun fv hm => ?_⟩
          refine spl_cons (hn _ _ _ h₁) ((hr _ _ _ h₁).1.run R F a hw fun g₁ v₁ d₁ s₁ st₁ a₁ r₁ hw₁ => spl_cons (hn _ _ _ h₂) ((hr _ _ _ h₂).1.run R F a₁ hw₁ fun g₂ v₂ d₂ s₂ st₂ a₂ r₂ hw₂ =>
            spl_cons (hn _ _ _ h₃) ((hr _ _ _ h₃).1.run R F a₂ hw₂ fun g₃ v₃ d₃ s₃ st₃ a₃ r₃ hw₃ => spl_cons (hn _ _ _ h₄) ((hr _ _ _ h₄).1.run R F a₃ hw₃ fun g₄ v₄ d₄ s₄ st₄ a₄ r₄ hw' => spl_nil ?_))))
          exact own_end hc hf hm R (((st₁.trans st₂).trans st₃).trans st₄) a₄
            (.cons ((((r₁.on st₂).on st₃).on st₄).frz hw'.1) (.cons (((r₂.on st₃).on st₄).frz hw'.2.1) (.cons ((r₃.on st₄).frz hw'.2.2.1) (.cons (r₄.frz hw'.2.2.2.1) .nil)))) hw'.2.2.2.2
        · cases h
      · split at h
        · rename_i hf
          obtain rfl : f = Str.ofString "len" := by simpa using hf
          split at h
          · rename_i e₁
            simp only [Option.map_eq_some_iff] at h
            obtain ⟨x₁, h₁, rfl⟩ := h
            exact ⟨fun R F a D hw => builtin_call (id := "len") (by simp [bnames]) hg' F a (hn _ _ _ h₁) rfl (arg1 (C := lenW) hr hn h₁ R F a hw fun v₁ d₁ g' s' st a' r₁ hw' => post_after st (len_ok a'.gin a'.min r₁ hw'))⟩
          · cases h
        split at h
        · rename_i hf
          obtain rfl : f = Str.ofString "range" := by simpa using hf
          split at h
          · rename_i e₁
            simp only [Option.map_eq_some_iff] at h
            obtain ⟨x₁, h₁, rfl⟩ := h
            exact ⟨fun R F a D hw => type_call (id := "range") (by simp [bnames]) hg' F a (hn _ _ _ h₁) rfl (arg1 (C := range1W) hr hn h₁ R F a hw fun v₁ d₁ g' s' st a' r₁ hw' => post_after st (range1_ok a'.gin r₁ hw'))⟩
          · rename_i e₁ e₂
            simp only [Option.bind_eq_bind, Option.bind_eq_some_iff, Option.some.injEq] at h
            obtain ⟨x₁, h₁, x₂, h₂, rfl⟩ := h
            exact ⟨fun R F a D hw => type_call (id := "range") (by simp [bnames]) hg' F a (hn _ _ _ h₁) (by simp [hn _ _ _ h₂]) (arg2 (C := range2W) hr hn h₁ h₂ R F a hw fun v₁ d₁ v₂ d₂ g' s' st a' r₁ r₂ hw' => post_after st (range2_ok a'.gin r₁ r₂ hw'))⟩
          · rename_i e₁ e₂ e₃
            simp only [Option.bind_eq_bind, Option.bind_eq_some_iff, Option.some.injEq] at h
            obtain ⟨x₁, h₁, x₂, h₂, x₃, h₃, rfl⟩ := h
            exact ⟨fun R F a D hw => type_call (id := "range") (by simp [bnames]) hg' F a (hn _ _ _ h₁) (by simp [hn _ _ _ h₂, hn _ _ _ h₃]) (arg3 (C := range3W) hr hn h₁ h₂ h₃ R F a hw fun v₁ d₁ v₂ d₂ v₃ d₃ g' s' st a' r₁ r₂ r₃ hw' => post_after st (range3_ok a'.gin r₁ r₂ r₃ hw'))⟩
          · cases h
        split at h
        · rename_i hf
          obtain rfl : f = Str.ofString "min" := by simpa using hf
          split at h
          · rename_i e₁
            simp only [Option.map_eq_some_iff] at h
            obtain ⟨x₁, h₁, rfl⟩ := h
            exact ⟨fun R F a D hw => builtin_call (id := "min") (by simp [bnames]) hg' F a (hn _ _ _ h₁) rfl (arg1 (C := min1W) hr hn h₁ R F a hw fun v₁ d₁ g' s' st a' r₁ hw' => post_after st (min1_ok R.handled a'.gin r₁ hw'))⟩
          · rename_i e₁ e₂
            simp only [Option.bind_eq_bind, Option.bind_eq_some_iff, Option.some.injEq] at h
            obtain ⟨x₁, h₁, x₂, h₂, rfl⟩ := h
            exact ⟨fun R F a D hw => builtin_call (id := "min") (by simp [bnames]) hg' F a (hn _ _ _ h₁) (by simp [hn _ _ _ h₂]) (arg2 (C := min2W) hr hn h₁ h₂ R F a hw fun v₁ d₁ v₂ d₂ g' s' st a' r₁ r₂ hw' => post_after st (min2_ok R.handled a'.gin r₁ r₂ hw'))⟩
          · cases h
        split at h
        · rename_i hf
          obtain rfl : f = Str.ofString "max" := by simpa using hf
          split at h
          · rename_i e₁ e₂
            simp only [Option.bind_eq_bind, Option.bind_eq_some_iff, Option.some.injEq] at h
            obtain ⟨x₁, h₁, x₂, h₂, rfl⟩ := h
            exact ⟨fun R F a D hw => builtin_call (id := "max") (by simp [bnames]) hg' F a (hn _ _ _ h₁) (by simp [hn _ _ _ h₂]) (arg2 (C := max2W) hr hn h₁ h₂ R F a hw fun v₁ d₁ v₂ d₂ g' s' st a' r₁ r₂ hw' => post_after st (max2_ok R.handled a'.gin r₁ r₂ hw'))⟩
          · cases h
        split at h
        · rename_i hf
          obtain rfl : f = Str.ofString "sorted" := by simpa using hf
          split at h
          · rename_i e₁
            simp only [Option.map_eq_some_iff] at h
            obtain ⟨x₁, h₁, rfl⟩ := h
            exact ⟨fun R F a D hw => builtin_call (id := "sorted") (by simp [bnames]) hg' F a (hn _ _ _ h₁) rfl (arg1 (C := sortedW) hr hn h₁ R F a hw fun v₁ d₁ g' s' st a' r₁ hw' => post_after st (sorted_ok a'.gin a'.min r₁ hw'))⟩
          · cases h
        split at h
        · rename_i hf
          obtain rfl : f = Str.ofString "list" := by simpa using hf
          split at h
          · rename_i e₁
            simp only [Option.map_eq_some_iff] at h
            obtain ⟨x₁, h₁, rfl⟩ := h
            exact ⟨fun R F a D hw => type_call (id := "list") (by simp [bnames]) hg' F a (hn _ _ _ h₁) rfl (arg1 (C := listOfW) hr hn h₁ R F a hw fun v₁ d₁ g' s' st a' r₁ hw' => post_after st (listOf_ok R.handled a'.gin r₁ hw'))⟩
          · cases h
        split at h
        · rename_i hf
          obtain rfl : f = Str.ofString "str" := by simpa using hf
          split at h
          · rename_i e₁
            simp only [Option.map_eq_some_iff] at h
            obtain ⟨x₁, h₁, rfl⟩ := h
            exact ⟨fun R F a D hw => type_call (id := "str") (by simp [bnames]) hg' F a (hn _ _ _ h₁) rfl (arg1 (C := strOfW) hr hn h₁ R F a hw fun v₁ d₁ g' s' st a' r₁ hw' => post_after st (strOf_ok a'.gin r₁ hw'))⟩
          · cases h
        · cases h
    · rename_i hks
      split at h
      · rename_i hf
        simp only [Bool.and_eq_true, beq_iff_eq] at hf
        obtain ⟨rfl, hd⟩ := hf
        split at h
        · rename_i e₁
          simp only [Option.bind_eq_some_iff, Option.map_eq_some_iff] at h
          obtain ⟨o, ho, x, hx, rfl⟩ := h
          obtain ⟨kk, p1, p2, p3, rfl⟩ := isDflt_of hd
          obtain ⟨q1, x', p'', v, q2, rfl, hg2, ho⟩ := asFilter_of ho
          obtain ⟨m, ap, p', rfl, h1, h2, h3⟩ := asValues_of ho
          refine ⟨fun {A env g μ σ s} R F a D hw => ?_⟩
          refine wpAny_Call_Name_kw (name_built F a hg' max_name (by decide) (callWith_kw ?_))
          refine spl_cons rfl (type_call (f := Str.ofString "filter") (id := "filter") (by simp [bnames]) hg2 F a rfl rfl (spl_cons rfl (wpAny_Constant_none (spl_cons rfl (values_run h1 h2 h3 ((hr _ _ _ hx).1.run R F a hw fun g₁ v₁ d₁ s₁ st₁ a₁ r₁ hw₁ => ?_))))))
          cases d₁ with
          | dict es =>
            obtain ⟨aa, kvs, rfl, e1, e2, e3⟩ := maxvals_ok (μ := μ) R.handled a₁.gin (r₁.frz trivial) hw₁
            refine ⟨aa, kvs, rfl, e1, e2, spl_nil (wpAny_mono e3 (fun fv s₂ h₂ => spl_nil ?_) fun _ _ x => x)⟩
            refine kws_cons (wpAny_UnaryOp (wpAny_Constant_int (PySem.P.neg_int (PyProof.Rows.kws_nil ?_))))
            exact wpAny_mono (h₂ _ _) (fun _ _ p => p.after st₁) fun _ _ x => x
          | _ => exact hw₁.elim
        · cases h
      · cases h

theorem meth_run {o e : Expr} {m : Str} {ap pos : Pos} {x y : IE} {T id : String} {Q : Value → Shared → Prop} {P : PV → PV → Prop} {I : PV → Prop} (hr : SndR prog w mg mb tab call k r) (hn : NoS r) (ho : r sc o = some x) (he : r sc e = some y) (hb : plainBase o = true) (hl : (ap.endLine == pos.line) = true)
    (R : Room k A) (F : Fit sc env) (a : At prog w mg mb tab g μ env σ s) (hw : W tab call x σ fun d₁ => I d₁ ∧ W tab call y σ fun d₂ => P d₁ d₂)
    (pa : PlainAttrs T) (sl : Slot T m id) (ty : typeOf (.builtin id) = pure (.type "method_descriptor"))
    (hT : ∀ v d g' s', At prog w mg mb tab g' μ env σ s' → RepM prog w g' μ v d → I d → s'.TypeIs v T ∧ ∀ a, v = .ref a → ∃ ob, s'.heap.get? a = some ob ∧ ob.dict = none)
    (hq : ∀ v₁ d₁ v₂ d₂ g' s', Step g s g' s' → At prog w mg mb tab g' μ env σ s' → RepM prog w g' μ v₁ d₁ → RepM prog w g' μ v₂ d₂ → P d₁ d₂ → wpAny (model prog w) A (PySem.call (.builtin id) [v₁, v₂]) Q noE s') :
    wpAny (model prog w) A (eval (.Call (.Attribute o m ap) [e] [] pos) env) Q noE s := by
  refine wpAny_Call_method1_late (base_of _ _ hb) hl (by rw [starEach_cons (hn _ _ _ he)]; rfl) ((hr _ _ _ ho).1.run R F a hw fun g₁ v₁ d₁ s₁ st₁ a₁ r₁ hw₁ => ?_)
  obtain ⟨t1, t2⟩ := hT _ _ _ _ a₁ r₁ hw₁.1
  refine ⟨T, id, pa, sl, ty, t1, t2, Calls.callWith_builtin rfl (Calls.evalArgs_plain (Calls.spliced_cons ?_))⟩
  exact (hr _ _ _ he).1.run R F a₁ hw₁.2 fun g₂ v₂ d₂ s₂ st₂ a₂ r₂ hw₂ => Calls.spliced_nil (hq _ _ _ _ _ _ (st₁.trans st₂) a₂ (r₁.on st₂) r₂ hw₂)
theorem isL_of {v : Value} {d : PV} (a : At prog w mg mb tab g μ env σ s) (r₁ : RepM prog w g μ v d) (h : isL d) : s.TypeIs v "list" ∧ ∀ a, v = .ref a → ∃ ob, s.heap.get? a = some ob ∧ ob.dict = none := by
  cases d with
  | list ds =>
    obtain ⟨l, vs, n, rfl, p, _, _⟩ := (r₁.frz trivial).isList
    exact ⟨(isList_of (a.gin _ _ p)).typeIs, fun b e => by cases e; exact ⟨_, a.gin _ _ p, rfl⟩⟩
  | _ => exact h.elim
theorem isS_of {v : Value} {d : PV} (r₁ : RepM prog w g μ v d) (h : isS d) : s.TypeIs v "str" ∧ ∀ a, v = .ref a → ∃ ob, s.heap.get? a = some ob ∧ ob.dict = none := by
  cases d with
  | str x => obtain ⟨t, rfl⟩ := r₁.isStr; exact ⟨typeIs_str _ _ _, fun b e => by cases e⟩
  | _ => exact h.elim
theorem meth_snd (hr : SndR prog w mg mb tab call k r) (hn : NoS r) {o : Expr} {m : Str} {ap p : Pos} {as : List Expr} {ks : List Keyword} {ie : IE} (h : cMeth r sc o m ap as ks p = some ie) : Snd prog w mg mb tab call k sc (.Call (.Attribute o m ap) as ks p) ie := by
  unfold cMeth at h
  split at h
  · rename_i hc
    simp only [Bool.and_eq_true, List.isEmpty_iff] at hc
    obtain ⟨⟨hb, hl⟩, rfl⟩ := hc
    split at h
    · rename_i e
      split at h
      · rename_i hm
        obtain rfl : m = Str.ofString "index" := by simpa using hm
        simp only [Option.bind_eq_bind, Option.bind_eq_some_iff, Option.some.injEq] at h
        obtain ⟨x, hx, y, hy, rfl⟩ := h
        exact ⟨fun R F a D hw => meth_run (I := isL) hr hn hx hy hb hl R F a hw PySem.F.plainAttrs_list PySem.F.slot_list_index PySem.F.type_list_index (fun v d g' s' a' r' hd => isL_of a' r' hd)
          fun v₁ d₁ v₂ d₂ g' s' st a' r₁ r₂ hw' => post_after st (index_ok a'.gin R.u64 r₁ r₂ hw')⟩
      split at h
      · rename_i hm
        obtain rfl : m = Str.ofString "join" := by simpa using hm
        simp only [Option.bind_eq_bind, Option.bind_eq_some_iff, Option.some.injEq] at h
        obtain ⟨x, hx, y, hy, rfl⟩ := h
        exact ⟨fun R F a D hw => meth_run (I := isS) hr hn hx hy hb hl R F a hw PySem.F.plainAttrs_str PySem.F.slot_str_join PySem.F.type_str_join (fun v d g' s' a' r' hd => isS_of r' hd)
          fun v₁ d₁ v₂ d₂ g' s' st a' r₁ r₂ hw' => post_after st (join_ok a'.gin r₁ r₂ hw')⟩
      split at h
      · rename_i hm
        obtain rfl : m = Str.ofString "split" := by simpa using hm
        simp only [Option.bind_eq_bind, Option.bind_eq_some_iff, Option.some.injEq] at h
        obtain ⟨x, hx, y, hy, rfl⟩ := h
        exact ⟨fun R F a D hw => meth_run (I := isS) hr hn hx hy hb hl R F a hw PySem.F.plainAttrs_str PySem.F.slot_str_split PySem.F.type_str_split (fun v d g' s' a' r' hd => isS_of r' hd)
          fun v₁ d₁ v₂ d₂ g' s' st a' r₁ r₂ hw' => post_after st (split_ok a'.gin r₁ r₂ hw')⟩
      · cases h
    · cases h
  · cases h
end
end Cut20
namespace Cut20

/-! What a loop walks over; a frame's own places. -/
section
variable {prog : Program} {w : World} {A : Around} {E : Value → Shared → Prop} {s : Shared} {g μ : Zone}

theorem go_plain {t : Expr} {I : Addr} {v : Value} {o : Obj} {n : String} {vs : Array Value} {Q : Unit → Shared → Prop} (ho : s.heap.get? I = some o) (hc : o.cls = .type n) (hd : o.data = .fields vs)
    (hn : (["enumerate", "zip", "dict_itemiterator", "dict_reverseitemiterator", "odict_iterator", "itertools.zip_longest", "itertools.pairwise"] : List String).contains n = false) (h : Q () s) :
    wpAny (model prog w) A (letOwnedTupleGo t (.ref I) v) Q E s := by
  have tup : wpAny (model prog w) A (match v with
      | .ref a => (do
        let o ← load I
        match o.cls, o.data with
        | .type n, .fields vs =>
          if (["enumerate", "zip", "dict_itemiterator", "dict_reverseitemiterator", "odict_iterator", "itertools.zip_longest", "itertools.pairwise"] : List String).contains n && vs[0]? == some (rawInt a) then
            rule "for.unpacks-the-owned-tuple"
            updateField I 0 .none
        | _, _ => pure () : Sem Unit)
      | _ => pure ()) Q E s := by
    cases v with
    | ref a =>
      refine wpAny_bind (wpAny_load ho ?_)
      rw [hc, hd]
      dsimp only
      rw [hn]
      exact wpAny_pure h
    | _ => exact wpAny_pure h
  cases t <;> first | exact wpAny_pure h | (cases v <;> exact tup)

structure Src (prog : Program) (w : World) (A : Around) (g μ : Zone) (I : Addr) (ds : List PV) (St : Nat → Heap → Prop) : Prop where
  frame : ∀ i h h', St i h → (∀ b o, (b = I ∨ (∃ o, g b = some o) ∨ ∃ o, μ b = some o) → h.get? b = some o → h'.get? b = some o) → St i h'
  here : ∀ i h, St i h → ∃ o, h.get? I = some o
  item : ∀ i (s : Shared) (Q : Option Value → Shared → Prop) (E : Value → Shared → Prop), i < ds.length → St i s.heap →
    (∀ v d h' tk, ds[i]? = some d → Rep prog w g v d → St (i + 1) h' → (∀ b o, b ≠ I → s.heap.get? b = some o → h'.get? b = some o) → Q (some v) { s with heap := h', toks := tk }) → wpAny (model prog w) A (pyNext (.ref I)) Q E s
  done : ∀ (s : Shared) (Q : Option Value → Shared → Prop) (E : Value → Shared → Prop), St ds.length s.heap →
    (∀ h' tk, (∀ b o, b ≠ I → s.heap.get? b = some o → h'.get? b = some o) → Q none { s with heap := h', toks := tk }) → wpAny (model prog w) A (pyNext (.ref I)) Q E s
  self : ∀ i (s : Shared) (Q : Value → Shared → Prop) (E : Value → Shared → Prop), St i s.heap → Q (.ref I) s → wpAny (model prog w) A (pyIter (.ref I)) Q E s
  go : ∀ i (s : Shared) t v (Q : Unit → Shared → Prop) (E : Value → Shared → Prop), St i s.heap → Q () s → wpAny (model prog w) A (letOwnedTupleGo t (.ref I) v) Q E s

theorem Src.of {I : Addr} {ds : List PV} {fp : List Addr} {P : Nat → Value → Prop} {St : Nat → Heap → Prop} (W : Walks prog w A I fp [I] ds.length P St)
    (hfp : ∀ b ∈ fp, b = I ∨ (∃ o, g b = some o) ∨ ∃ o, μ b = some o) (hP : ∀ i v, i < ds.length → P i v → ∃ d, ds[i]? = some d ∧ Rep prog w g v d) (hh : ∀ i h, St i h → ∃ o, h.get? I = some o)
    (go : ∀ i (s : Shared) t v (Q : Unit → Shared → Prop) (E : Value → Shared → Prop), St i s.heap → Q () s → wpAny (model prog w) A (letOwnedTupleGo t (.ref I) v) Q E s) : Src prog w A g μ I ds St where
  frame := fun i h h' st k => W.frame i h h' st fun b hb o e => k b o (hfp b hb) e
  here := hh
  item := fun i s Q E hi st hq => W.item i s Q E hi st fun v h' tk hp st' hk => let ⟨d, e, r⟩ := hP i v hi hp; hq v d h' tk e r st' fun b o hb e => hk b o (by simp [hb]) e
  done := fun s Q E st hq => W.done s Q E st fun h' tk hk => hq h' tk fun b o hb e => hk b o (by simp [hb]) e
  self := W.self
  go := go

theorem iter_list {a : Addr} {vs : List Value} {n : Nat} {ds : List PV} {Q : Value → Shared → Prop} (hh : A.handled = none) (ha : s.heap.get? a = some ({ cls := .type "list", data := .seq vs.toArray n } : Obj)) (hz : (∃ o, g a = some o) ∨ ∃ o, μ a = some o)
    (hr : RepAll prog w g vs ds)
    (hq : ∀ I St h', Ext s.heap h' → s.heap.get? I = none → Src prog w A g μ I ds St → St 0 h' → Q (.ref I) { s with heap := h' }) : wpAny (model prog w) A (pyIter (.ref a)) Q E s := by
  have hl := isList_of ha
  have hne : a ≠ s.heap.objs.size := Nat.ne_of_lt (Heap.lt_size ha)
  refine wpAny_pyIter_list hl (hq s.heap.objs.size (fun i h => h.IsListIter s.heap.objs.size a i ∧ h.IsList a vs.toArray) _ (fun _ _ e => Heap.get?_push_of_some _ e) (get?_size _) ?_ ⟨⟨_, Heap.get?_push_size _ rfl, rfl, rfl⟩, hl.push _⟩)
  have hsz : vs.toArray.size = ds.length := by rw [List.size_toArray]; exact hr.length
  have W := Walks.list (prog := prog) (w := w) (A := A) hh s.heap.objs.size a hne vs.toArray
  rw [hsz] at W
  refine .of W (fun b hb => ?_) (fun i v hi hp => ?_) (fun i h st => ?_) fun i s' t v Q E st hQ => ?_
  · simp only [List.mem_cons, List.not_mem_nil, or_false] at hb
    rcases hb with rfl | rfl
    · exact .inl rfl
    · exact .inr hz
  · obtain ⟨v', hv, rv⟩ := hr.get (List.getElem?_eq_getElem hi)
    have e : vs[i]? = some v := by simpa using hp
    rw [hv] at e
    cases e
    exact ⟨_, List.getElem?_eq_getElem hi, rv⟩
  · obtain ⟨⟨o, ho, _⟩, _⟩ := st; exact ⟨o, ho⟩
  · obtain ⟨⟨o, ho, hc, hd⟩, _⟩ := st
    exact go_plain ho hc hd (by decide) hQ

theorem iter_ok {v : Value} {d : PV} {ds : List PV} {Q : Value → Shared → Prop} (hh : A.handled = none) (gi : g.In s.heap) (mi : μ.In s.heap) (hx : RepM prog w g μ v d) (hd : d.items = some ds)
    (hq : ∀ I St h', Ext s.heap h' → s.heap.get? I = none → Src prog w A g μ I ds St → St 0 h' → Q (.ref I) { s with heap := h' }) : wpAny (model prog w) A (pyIter v) Q E s := by
  cases hx with
  | fr hx =>
    cases hx with
    | list h r => cases hd; exact iter_list hh (gi _ _ h) (.inl ⟨_, h⟩) r hq
    | rng h1 h2 h =>
      rename_i a x y z t u v'
      obtain ⟨hc, hs, hz, hi⟩ := rng_items hd h1 h2
      refine wpAny_pyIter_range (gi _ _ h) hs ?_
      rw [hz]
      refine hq s.heap.objs.size (fun i h => IsRangeIter h s.heap.objs.size (x + (i : Nat) * z) ((ds.length : Int) - (i : Nat)) z) _ (fun _ _ e => Heap.get?_push_of_some _ e) (get?_size _) ?_ ?_
      · refine .of (Walks.range hh s.heap.objs.size x z ds.length) (fun b hb => ?_) (fun i v hi' hp => ?_) (fun i h st => ⟨_, st⟩) fun i s' t v Q E st hQ => go_plain st rfl rfl (by decide) hQ
        · simp only [List.mem_cons, List.not_mem_nil, or_false] at hb
          exact .inl hb
        · obtain ⟨t', rfl⟩ := hp
          exact ⟨_, hi i hi', .int _ _⟩
      · have := Heap.get?_push_size s.heap (o := { cls := .type "range_iterator", data := .fields #[rawInt x, rawInt (ds.length : Int), rawInt z] }) rfl
        simpa using this
    | _ => cases hd
  | cur h r => cases hd; exact iter_list hh (mi _ _ h) (.inr ⟨_, h⟩) r hq
end

theorem ns_det {h : Heap} {a : Addr} {m m' : Str → Option Value} (x : h.Ns a m) (y : h.Ns a m') (n : Str) : m n = m' n := by
  obtain ⟨o, es, ep, ho, hd, hk, hm⟩ := x
  obtain ⟨o', es', ep', ho', hd', hk', hm'⟩ := y
  rw [ho] at ho'
  cases ho'
  rw [hd] at hd'
  cases hd'
  rw [← hm, ← hm']
/-- a frame's places: where its own names are kept -/
structure Frm (env : Env) (sc : Scope) (M : Addr → Prop) : Prop where
  fit : Fit sc env
  L : M env.locals
  own : ∀ x c, sc.names.lookup x = some .cell → env.cells.lookup x = some c → M c
  apart : ∀ x c, (env.kindOf x = some .cell ∨ env.kindOf x = some .free) → env.cells.lookup x = some c → c ≠ env.locals
  inj : ∀ x y c, sc.names.lookup x = some .cell → x ≠ y → env.cells.lookup x = some c → (env.kindOf y = some .cell ∨ env.kindOf y = some .free) → env.cells.lookup y ≠ some c

structure Dyn (s₀ : Shared) (g₀ : Zone) (env : Env) (sc : Scope) (M : Addr → Prop) (g : Zone) (s : Shared) : Prop where
  step : Step g₀ s₀ g s
  new : ∀ a, M a → s₀.heap.get? a = none
  out : ∀ a, M a → g a = none
  here : ∀ a, M a → ∃ o, s.heap.get? a = some o
  ns : ∃ m, s.heap.Ns env.locals m
  cel : ∀ x, sc.names.lookup x = some .cell → ∃ c u, env.cells.lookup x = some c ∧ s.heap.IsCell c u

section
variable {prog : Program} {w : World} {A : Around} {E : Value → Shared → Prop} {s s₀ s' : Shared} {g g₀ g' : Zone} {env : Env} {sc : Scope} {M : Addr → Prop}

theorem Dyn.on (d : Dyn s₀ g₀ env sc M g s) (st : Step g s g' s') : Dyn s₀ g₀ env sc M g' s' where
  step := d.step.trans st
  new := d.new
  out := fun a ha => by
    cases q : g' a with
    | none => rfl
    | some o =>
      rcases st.fresh a o q with h | h
      · rw [d.out a ha] at h; cases h
      · obtain ⟨o', e⟩ := d.here a ha; rw [e] at h; cases h
  here := fun a ha => let ⟨o, e⟩ := d.here a ha; ⟨o, st.keep.ext _ _ e⟩
  ns := let ⟨m, h⟩ := d.ns; ⟨m, h.keeps st.keep.ext⟩
  cel := fun x hx => let ⟨c, u, a, b⟩ := d.cel x hx; ⟨c, u, a, b.keeps st.keep.ext⟩
/-- one of the frame's places is written -/
theorem Dyn.write {a : Addr} {h' : Heap} {tk : Nat} (d : Dyn s₀ g₀ env sc M g s) (ha : M a) (hk : ∀ b o, b ≠ a → s.heap.get? b = some o → h'.get? b = some o) (hh : ∃ o, h'.get? a = some o)
    (ns : ∃ m, h'.Ns env.locals m) (cel : ∀ x, sc.names.lookup x = some .cell → ∃ c u, env.cells.lookup x = some c ∧ h'.IsCell c u) : Dyn s₀ g₀ env sc M g { s with heap := h', toks := tk } where
  step := { le := d.step.le, fresh := d.step.fresh,
            gin := fun b o e => hk b o (fun q => by rw [q, d.out a ha] at e; cases e) (d.step.gin b o e),
            keep := by
              obtain ⟨h₁, t₁, rfl, e₁⟩ := d.step.keep.is
              exact ⟨h', tk, rfl, fun b o e => hk b o (fun q => by rw [q, d.new a ha] at e; cases e) (e₁ b o e)⟩ }
  new := d.new
  out := d.out
  here := fun b hb => by
    by_cases q : b = a
    · exact q ▸ hh
    · obtain ⟨o, e⟩ := d.here b hb; exact ⟨o, hk b o q e⟩
  ns := ns
  cel := cel
/-- a place that is neither the names' own dict nor a cell is written -/
theorem Dyn.touch {a : Addr} {h' : Heap} {tk : Nat} (d : Dyn s₀ g₀ env sc M g s) (ha : M a) (hk : ∀ b o, b ≠ a → s.heap.get? b = some o → h'.get? b = some o) (hh : ∃ o, h'.get? a = some o)
    (hL : a ≠ env.locals) (hc : ∀ x c, sc.names.lookup x = some .cell → env.cells.lookup x = some c → a ≠ c) : Dyn s₀ g₀ env sc M g { s with heap := h', toks := tk } :=
  d.write ha hk hh (let ⟨m, n⟩ := d.ns; ⟨m, n.at' fun o e => hk _ o (Ne.symm hL) e⟩)
    fun x hx => let ⟨c, u, e, o, ho, hd⟩ := d.cel x hx; ⟨c, u, e, o, hk _ _ (Ne.symm (hc x c hx e)) ho, hd⟩

/-- a place is given up -/
theorem Dyn.drop {a : Addr} {h' : Heap} {tk : Nat} (d : Dyn s₀ g₀ env sc M g s) (ha : M a) (hk : ∀ b o, b ≠ a → s.heap.get? b = some o → h'.get? b = some o)
    (hL : a ≠ env.locals) (hc : ∀ x c, sc.names.lookup x = some .cell → env.cells.lookup x = some c → a ≠ c) : Dyn s₀ g₀ env sc (fun b => M b ∧ b ≠ a) g { s with heap := h', toks := tk } where
  step := { le := d.step.le, fresh := d.step.fresh,
            gin := fun b o e => hk b o (fun q => by rw [q, d.out a ha] at e; cases e) (d.step.gin b o e),
            keep := by
              obtain ⟨h₁, t₁, rfl, e₁⟩ := d.step.keep.is
              exact ⟨h', tk, rfl, fun b o e => hk b o (fun q => by rw [q, d.new a ha] at e; cases e) (e₁ b o e)⟩ }
  new := fun b hb => d.new b hb.1
  out := fun b hb => d.out b hb.1
  here := fun b hb => let ⟨o, e⟩ := d.here b hb.1; ⟨o, hk b o hb.2 e⟩
  ns := let ⟨m, n⟩ := d.ns; ⟨m, n.at' fun o e => hk _ o (Ne.symm hL) e⟩
  cel := fun x hx => let ⟨c, u, e, o, ho, hd⟩ := d.cel x hx; ⟨c, u, e, o, hk _ _ (Ne.symm (hc x c hx e)) ho, hd⟩
theorem Dyn.subM {M' : Addr → Prop} (d : Dyn s₀ g₀ env sc M g s) (h : ∀ a, M' a → M a) : Dyn s₀ g₀ env sc M' g s :=
  ⟨d.step, fun a ha => d.new a (h a ha), fun a ha => d.out a (h a ha), fun a ha => d.here a (h a ha), d.ns, d.cel⟩

theorem Fit.plainEnv (F : Fit sc env) : (env.scope.kind == .class || (env.scope.kind == .module && env.locals != env.globals)) = false := by rw [F.kind]; rfl

/-- a name of the frame's own is bound -/
theorem Frm.store {x : Str} {v : Value} {Q : Unit → Shared → Prop} (F : Frm env sc M) (d : Dyn s₀ g₀ env sc M g s) (hx : sc.names.lookup x = some .local ∨ sc.names.lookup x = some .cell)
    (hq : ∀ a h' tk, M a → (a = env.locals ∨ ∃ y, sc.names.lookup y = some .cell ∧ env.cells.lookup y = some a) → Heap.SameBut a s.heap h' → VarAt h' env x v → (∀ y u, y ≠ x → VarAt s.heap env y u → VarAt h' env y u) → Dyn s₀ g₀ env sc M g { s with heap := h', toks := tk } →
      Q () { s with heap := h', toks := tk }) : wpAny (model prog w) A (storeName env x v) Q E s := by
  rcases hx with hx | hx
  · obtain ⟨m, hn⟩ := d.ns
    have hk := F.fit.loc x hx
    refine wpAny_storeName_local hk hn (fun h' hn' hs => hq env.locals h' _ F.L (.inl rfl) hs (.inl ⟨hk, _, hn', if_pos rfl⟩) (fun y u hy hv => ?_) ?_) F.fit.plainEnv
    · rcases hv with ⟨p, m', q, r⟩ | ⟨p, c, q, r⟩
      · refine .inl ⟨p, _, hn', ?_⟩
        show (if y = x then some v else m y) = some u
        rw [if_neg hy]
        rw [ns_det hn q y]; exact r
      · exact .inr ⟨p, c, q, r.sameBut hs (F.apart y c p q)⟩
    · refine d.write F.L (fun b o hb e => hs.extBut b o hb e) (let ⟨o, _, _, e, _⟩ := hn'; ⟨o, e⟩) ⟨_, hn'⟩ fun y hy => ?_
      obtain ⟨c, u, e, q⟩ := d.cel y hy
      exact ⟨c, u, e, q.sameBut hs (F.apart y c (.inl (F.fit.cel y hy)) e)⟩
  · obtain ⟨c, u, hc, hv⟩ := d.cel x hx
    have hk := F.fit.cel x hx
    have hcl := F.apart x c (.inl hk) hc
    obtain ⟨m, hn⟩ := d.ns
    refine wpAny_storeName_cell F.fit.kind hk hc hv fun h' hv' hs => hq c h' s.toks (F.own x c hx hc) (.inr ⟨x, hx, hc⟩) hs (.inr ⟨.inl hk, c, hc, hv'⟩) (fun y u hy hyv => ?_) ?_
    · rcases hyv with ⟨p, m', q, r⟩ | ⟨p, c', q, r⟩
      · exact .inl ⟨p, m', q.sameBut hs (Ne.symm hcl), r⟩
      · refine .inr ⟨p, c', q, r.sameBut hs fun e => ?_⟩
        exact F.inj x y c hx (Ne.symm hy) hc p (e ▸ q)
    · refine d.write (F.own x c hx hc) (fun b o hb e => hs.extBut b o hb e) (let ⟨o, e, _⟩ := hv'; ⟨o, e⟩) ⟨m, hn.sameBut hs (Ne.symm hcl)⟩ fun y hy => ?_
      by_cases hyx : y = x
      · exact ⟨c, some v, hyx ▸ hc, hv'⟩
      · obtain ⟨c', u', e, q⟩ := d.cel y hy
        exact ⟨c', u', e, q.sameBut hs fun e' => F.inj x y c hx (Ne.symm hyx) hc (.inl (F.fit.cel y hy)) (e' ▸ e)⟩
end
end Cut20
namespace Cut20

/-! A comprehension's own frame. -/
noncomputable def clos (env : Env) : List (Str × NameKind) → List (Str × Addr) → List (Str × Addr)
  | [], acc => acc
  | (n, k) :: r, acc => if k == .free then clos env r ((n, (env.cells.lookup n).getD 0) :: acc) else clos env r acc
theorem clos_mem (env : Env) : ∀ (names : List (Str × NameKind)) (acc : List (Str × Addr)) (n : Str) (c : Addr), (n, c) ∈ clos env names acc → (n, c) ∈ acc ∨ ((n, NameKind.free) ∈ names ∧ c = (env.cells.lookup n).getD 0)
  | [], acc, n, c, h => .inl h
  | (m, k) :: r, acc, n, c, h => by
    unfold clos at h
    split at h
    · rename_i hk
      rcases clos_mem env r _ n c h with h | h
      · rcases List.mem_cons.mp h with h | h
        · cases h
          exact .inr ⟨by rw [beq_iff_eq.mp hk]; exact List.mem_cons_self .., rfl⟩
        · exact .inl h
      · exact .inr ⟨List.mem_cons_of_mem _ h.1, h.2⟩
    · rcases clos_mem env r _ n c h with h | h
      · exact .inl h
      · exact .inr ⟨List.mem_cons_of_mem _ h.1, h.2⟩
theorem clos_acc (env : Env) : ∀ (names : List (Str × NameKind)) (acc : List (Str × Addr)) (p : Str × Addr), p ∈ acc → p ∈ clos env names acc
  | [], acc, p, h => h
  | (m, k) :: r, acc, p, h => by
    unfold clos
    split
    · exact clos_acc env r _ p (List.mem_cons_of_mem _ h)
    · exact clos_acc env r _ p h
theorem clos_has (env : Env) : ∀ (names : List (Str × NameKind)) (acc : List (Str × Addr)) (n : Str), (n, NameKind.free) ∈ names → (n, (env.cells.lookup n).getD 0) ∈ clos env names acc
  | [], _, _, h => by cases h
  | (m, k) :: r, acc, n, h => by
    unfold clos
    rcases List.mem_cons.mp h with h | h
    · cases h
      rw [if_pos (by rfl)]
      exact clos_acc env r _ _ (List.mem_cons_self ..)
    · split
      · exact clos_has env r _ n h
      · exact clos_has env r _ n h
theorem closureFor_ok {scope : Scope} {env : Env} (h : ∀ p ∈ scope.names, p.2 = .free → ∃ c, env.cells.lookup p.1 = some c) : closureFor scope env = pure (clos env scope.names []) := by
  have go : ∀ (names : List (Str × NameKind)) (acc : List (Str × Addr)), (∀ p ∈ names, p.2 = .free → ∃ c, env.cells.lookup p.1 = some c) →
      (forIn names acc fun x r => (do
        if x.2 == .free then
          let a ← cellOf env x.1
          pure (ForInStep.yield ((x.1, a) :: r))
        else pure (ForInStep.yield r) : Sem (ForInStep (List (Str × Addr))))) = pure (clos env names acc) := by
    intro names
    induction names with
    | nil => intro acc _; rfl
    | cons p r ih =>
      intro acc hp
      obtain ⟨n, k⟩ := p
      rw [List.forIn_cons]
      unfold clos
      by_cases hk : (k == NameKind.free) = true
      · obtain ⟨c, hc⟩ := hp (n, k) (List.mem_cons_self ..) (beq_iff_eq.mp hk)
        dsimp only at hc ⊢
        rw [if_pos hk, if_pos hk]
        unfold cellOf
        rw [hc]
        simp only [pure_bind, Option.getD_some]
        exact ih _ fun q hq => hp q (List.mem_cons_of_mem _ hq)
      · dsimp only
        rw [if_neg hk, if_neg hk]
        simp only [pure_bind]
        exact ih _ fun q hq => hp q (List.mem_cons_of_mem _ hq)
  have e := go scope.names [] h
  unfold closureFor
  show (forIn scope.names [] _ >>= fun cs => pure cs) = _
  rw [bind_pure]
  exact e

theorem cellsFrom_app : ∀ (names : List (Str × NameKind)) (k : Nat) (acc : List (Str × Addr)), cellsFrom k names acc = cellsFrom k names [] ++ acc
  | [], _, _ => rfl
  | (n, kd) :: r, k, acc => by
    unfold cellsFrom
    split
    · rw [cellsFrom_app r (k + 1) ((n, k) :: acc), cellsFrom_app r (k + 1) [(n, k)]]; simp
    · exact cellsFrom_app r k acc
theorem cellsFrom_mem : ∀ (names : List (Str × NameKind)) (k : Nat) (n : Str) (c : Addr), (n, c) ∈ cellsFrom k names [] → (n, NameKind.cell) ∈ names
  | [], _, _, _, h => by cases h
  | (m, kd) :: r, k, n, c, h => by
    unfold cellsFrom at h
    split at h
    · rename_i hk
      rw [cellsFrom_app] at h
      rcases List.mem_append.mp h with h | h
      · exact List.mem_cons_of_mem _ (cellsFrom_mem r _ n c h)
      · cases List.mem_singleton.mp h
        rw [beq_iff_eq.mp hk]; exact List.mem_cons_self ..
    · exact List.mem_cons_of_mem _ (cellsFrom_mem r _ n c h)
theorem cellsFrom_has : ∀ (names : List (Str × NameKind)) (k : Nat) (n : Str), (n, NameKind.cell) ∈ names → ∃ c, (n, c) ∈ cellsFrom k names []
  | [], _, _, h => by cases h
  | (m, kd) :: r, k, n, h => by
    unfold cellsFrom
    rcases List.mem_cons.mp h with h | h
    · cases h
      rw [if_pos (by rfl), cellsFrom_app]
      exact ⟨k, List.mem_append_right _ (List.mem_singleton.mpr rfl)⟩
    · split
      · rw [cellsFrom_app]
        obtain ⟨c, hc⟩ := cellsFrom_has r (k + 1) n h
        exact ⟨c, List.mem_append_left _ hc⟩
      · exact cellsFrom_has r k n h
theorem lookup_has {α : Type} : ∀ {l : List (Str × α)} {n : Str} {c : α}, (n, c) ∈ l → ∃ c', l.lookup n = some c'
  | (k, v) :: r, n, c, h => by
    rw [List.lookup_cons]
    cases hb : n == k with
    | true => exact ⟨v, rfl⟩
    | false =>
      rcases List.mem_cons.mp h with h | h
      · cases h; simp at hb
      · exact lookup_has h
theorem lookup_app {α : Type} : ∀ {l l' : List (Str × α)} {n : Str}, (∀ c, (n, c) ∉ l) → (l ++ l').lookup n = l'.lookup n
  | [], _, _, _ => rfl
  | (k, v) :: r, l', n, h => by
    rw [List.cons_append, List.lookup_cons]
    have hb : (n == k) = false := by
      cases hb : n == k with
      | false => rfl
      | true => exact absurd (by rw [beq_iff_eq.mp hb]; exact List.mem_cons_self ..) (h v)
    rw [hb]
    exact lookup_app fun c hc => h c (List.mem_cons_of_mem _ hc)
theorem lookup_app_left {α : Type} : ∀ {l l' : List (Str × α)} {n : Str} {c : α}, l.lookup n = some c → (l ++ l').lookup n = some c
  | (k, v) :: r, l', n, c, h => by
    rw [List.cons_append, List.lookup_cons]
    rw [List.lookup_cons] at h
    cases hb : n == k with
    | true => rw [hb] at h; exact h
    | false => rw [hb] at h; exact lookup_app_left h
theorem lookup_relabel {env : Env} : ∀ {names : List (Str × NameKind)} {x : Str} {q : NameKind}, names.lookup x = some q →
    (names.map fun (n, k) => if (k == NameKind.free && env.scope.kind == .function && env.kindOf n == some .cell) then (n, NameKind.cell) else (n, k)).lookup x = some (if (q == NameKind.free && env.scope.kind == .function && env.kindOf x == some .cell) then .cell else q)
  | [], _, _, h => by simp at h
  | (n, k) :: r, x, q, h => by
    rw [List.map_cons]
    dsimp only
    rw [List.lookup_cons] at h
    cases hx : x == n with
    | true =>
      rw [hx] at h
      obtain rfl : k = q := by simpa using h
      obtain rfl := beq_iff_eq.mp hx
      split
      · simp [List.lookup_cons]
      · simp [List.lookup_cons]
    | false =>
      rw [hx] at h
      have ih := @lookup_relabel env r x q h
      split
      · rw [List.lookup_cons, hx]; exact ih
      · rw [List.lookup_cons, hx]; exact ih
theorem lookup_relabel_none {env : Env} : ∀ {names : List (Str × NameKind)} {x : Str}, names.lookup x = none →
    (names.map fun (n, k) => if (k == NameKind.free && env.scope.kind == .function && env.kindOf n == some .cell) then (n, NameKind.cell) else (n, k)).lookup x = none
  | [], _, _ => rfl
  | (n, k) :: r, x, h => by
    rw [List.map_cons]
    dsimp only
    rw [List.lookup_cons] at h
    cases hx : x == n with
    | true => rw [hx] at h; cases h
    | false =>
      rw [hx] at h
      have ih := @lookup_relabel_none env r x h
      split
      · rw [List.lookup_cons, hx]; exact ih
      · rw [List.lookup_cons, hx]; exact ih

/-- the frame of a comprehension in env, its names' dict at C -/
noncomputable def compEnv20 (csc : Scope) (C : Addr) (env : Env) : Env :=
  { scope := relabel csc env, locals := C, globals := env.globals, cells := cellsFrom (C + 1) csc.names (clos env csc.names []), qual := env.qual, func := none, code := env.code, frame := env.frame, builtins := env.builtins }

theorem new_env {M : Model} {A : Around} {E : Value → Shared → Prop} {s : Shared} {scope : Scope} {cl : List (Str × Addr)} {outer : Env} {Q : Env → Shared → Prop}
    (hQ : Q { scope := scope, locals := s.heap.objs.size, globals := outer.globals, cells := cellsFrom (s.heap.objs.size + 1) scope.names cl, qual := outer.qual, func := none, code := outer.code, frame := outer.frame, builtins := outer.builtins }
      { s with heap := pushCells (s.heap.push { cls := .type "dict", data := .dict #[] }) scope.names }) :
    wpAny M A (newFunctionEnv scope outer.globals cl [] outer.qual none .none (some outer)) Q E s := by
  simp only [newFunctionEnv, Option.isSome_some, if_true]
  refine wpAny_bind (wpAny_alloc ?_)
  refine wpAny_bind (wpAny_layCells _ (fun name kind cells => ?_) scope.names cl _ _ ?_)
  · rfl
  · rw [show ({ s with heap := s.heap.push { cls := .type "dict", data := .dict #[] } } : Shared).heap.objs.size = s.heap.objs.size + 1 from Heap.size_push ..]
    rw [List.forIn_nil]
    exact wpAny_bind (wpAny_pure (wpAny_pure hQ))
end Cut20
namespace Cut20

noncomputable def Vars (prog : Program) (w : World) (g μ : Zone) (env : Env) (σ : Sg) (s : Shared) : Prop := ∀ x i d, vid x = some i → σ i = some d → ∃ v, VarAt s.heap env x v ∧ RepM prog w g μ v d
section
variable {prog : Program} {w : World} {mg mb : Str → Option Value} {tab : Str → Option Int} {A : Around} {E : Value → Shared → Prop} {s s₀ s' : Shared} {g g₀ g' μ : Zone} {env : Env} {sc csc : Scope} {M : Addr → Prop} {σ τ τ' : Sg}

theorem Vars.on (h : Vars prog w g μ env σ s) (st : Step g s g' s') : Vars prog w g' μ env σ s' := fun x i d a b => let ⟨v, p, q⟩ := h x i d a b; ⟨v, p.keeps st.keep.ext, q.on st⟩

/-- which places a binding may write -/
noncomputable def Else (env : Env) (sc : Scope) (b : Addr) : Prop := b ≠ env.locals ∧ ∀ y, sc.names.lookup y = some .cell → env.cells.lookup y ≠ some b
theorem else_of (a : Addr) {b : Addr} (ha : a = env.locals ∨ ∃ y, sc.names.lookup y = some .cell ∧ env.cells.lookup y = some a) (hb : Else env sc b) : b ≠ a := by
  rintro rfl
  rcases ha with h | ⟨y, h1, h2⟩
  · exact hb.1 h
  · exact hb.2 y h1 h2

theorem own_of {x : Str} (h : ownName sc x = true) : sc.names.lookup x = some .local ∨ sc.names.lookup x = some .cell := by
  unfold ownName at h
  simpa using h

/-- one name is bound to a frozen datum -/
theorem bind_one {x : Str} {i : Nat} {v : Value} {d : PV} {Q : Unit → Shared → Prop} (F : Frm env sc M) (dy : Dyn s₀ g₀ env sc M g s) (V : Vars prog w g μ env τ s) (hx : ownName sc x = true) (hi : vid x = some i) (hd : Rep prog w g v d)
    (hq : ∀ h' tk, Dyn s₀ g₀ env sc M g { s with heap := h', toks := tk } → Vars prog w g μ env (upd τ i d) { s with heap := h', toks := tk } → (∀ b o, Else env sc b → s.heap.get? b = some o → h'.get? b = some o) → Q () { s with heap := h', toks := tk }) :
    wpAny (model prog w) A (storeName env x v) Q E s :=
  F.store dy (own_of hx) fun a h' tk ha hw hs hv hy dy' => hq h' tk dy' (fun y j e hj he => by
    unfold upd at he
    by_cases hji : j = i
    · subst hji
      rw [if_pos rfl] at he
      cases he
      rw [vid_inj hj hi]
      exact ⟨v, hv, .fr hd⟩
    · rw [if_neg hji] at he
      obtain ⟨u, p, q⟩ := V y j e hj he
      exact ⟨u, hy y u (fun c => hji (by rw [c] at hj; rw [hj] at hi; exact Option.some.inj hi)) p, q⟩) fun b o hb e => hs.extBut b o (else_of a hw hb) e

theorem bindT_two {x y : Nat} {d : PV} (h : bindT (.two x y) d τ = some τ') : ∃ p q, d = .tup [p, q] ∧ upd (upd τ x p) y q = τ' := by
  simp only [bindT] at h
  split at h
  · exact ⟨_, _, rfl, Option.some.inj h⟩
  · cases h
theorem bind_ok {te : Expr} {t : Tgt} {v : Value} {d : PV} {Q : Unit → Shared → Prop} (hh : A.handled = none) (F : Frm env sc M) (dy : Dyn s₀ g₀ env sc M g s) (V : Vars prog w g μ env τ s) (ht : cTgt (ownName sc) te = some t) (hd : Rep prog w g v d)
    (hb : bindT t d τ = some τ')
    (hq : ∀ h' tk, Dyn s₀ g₀ env sc M g { s with heap := h', toks := tk } → Vars prog w g μ env τ' { s with heap := h', toks := tk } → (∀ b o, Else env sc b → s.heap.get? b = some o → h'.get? b = some o) → Q () { s with heap := h', toks := tk }) :
    wpAny (model prog w) A (assign te env v) Q E s := by
  rcases cTgt_of ht with ⟨x, p, i, rfl, hx, hi, rfl⟩ | ⟨x, px, y, py, k, pp, i, j, rfl, hx, hy, hxy, hi, hj, rfl⟩
  · obtain rfl := Option.some.inj (show some (upd τ i d) = some τ' from hb)
    exact wpAny_assign_Name (bind_one F dy V hx hi hd hq)
  · obtain ⟨p, q, rfl, rfl⟩ := bindT_two hb
    obtain ⟨a, vs, n, rfl, hg, r, e⟩ := hd.isTup
    cases r with
    | cons h1 r =>
      cases r with
      | cons h2 r =>
        cases r
        rename_i v1 v2
        refine assign_Tuple_tuple hh (isTup_of (dy.step.gin _ _ hg)) rfl rfl fun h₁ he => ?_
        have ext : Ext s.heap h₁ := fun b o e => he b o (Nat.ne_of_lt (Heap.lt_size e)) e
        have st : Step g s g { s with heap := h₁ } := .of dy.step.gin ⟨h₁, s.toks, rfl, ext⟩
        refine assignInOrder_cons (wpAny_assign_Name (bind_one F (dy.on st) (V.on st) hx hi h1 fun h₂ tk₂ dy₂ V₂ k₂ => ?_))
        refine assignInOrder_cons (wpAny_assign_Name (bind_one F dy₂ V₂ hy hj h2 fun h₃ tk₃ dy₃ V₃ k₃ => assignInOrder_nil ?_))
        exact hq h₃ tk₃ dy₃ V₃ fun b o hb e => k₃ b o hb (k₂ b o hb (ext b o e))
end
end Cut20
namespace Cut20

section
variable {prog : Program} {w : World} {mg mb : Str → Option Value} {tab : Str → Option Int} {A : Around} {s s₁ s' : Shared} {g g₁ g' μ : Zone} {env : Env} {sc csc : Scope} {σ τ : Sg} {C : Addr}

structure ScopeOk (sc csc : Scope) : Prop where
  kind : csc.kind = .function
  names : ∀ p ∈ csc.names, csc.names.lookup p.1 = some p.2
  free : ∀ x, (x, NameKind.free) ∈ csc.names → sc.names.lookup x = some .cell ∨ sc.names.lookup x = some .free
  kinds : ∀ p ∈ csc.names, p.2 = .free ∨ p.2 = .local ∨ p.2 = .cell ∨ p.2 = .globalImplicit
theorem scopeOk_of (h : scopeOk sc csc = true) : ScopeOk sc csc := by
  unfold scopeOk at h
  simp only [Bool.and_eq_true, beq_iff_eq, List.all_eq_true] at h
  refine ⟨h.1, fun p hp => (h.2 p hp).1, fun x hx => ?_, fun p hp => ?_⟩
  · have := (h.2 _ hx).2
    simpa using this
  · have := (h.2 p hp).2
    cases hk : p.2 <;> rw [hk] at this <;> simp_all

theorem comp_kind {x : Str} {q : NameKind} (h : csc.names.lookup x = some q) : (compEnv20 csc C env).kindOf x = some (if (q == NameKind.free && env.scope.kind == .function && env.kindOf x == some .cell) then .cell else q) := lookup_relabel h
theorem comp_kind_none {x : Str} (h : csc.names.lookup x = none) : (compEnv20 csc C env).kindOf x = none := lookup_relabel_none h
theorem comp_cellish (K : ScopeOk sc csc) {x : Str} (h : (compEnv20 csc C env).kindOf x = some .cell ∨ (compEnv20 csc C env).kindOf x = some .free) : csc.names.lookup x = some .cell ∨ csc.names.lookup x = some .free := by
  cases q : csc.names.lookup x with
  | none => rw [comp_kind_none q] at h; simp at h
  | some k =>
    rw [comp_kind q] at h
    rcases K.kinds _ (mem_of_lookup q) with hk | hk | hk | hk <;> dsimp only at hk <;> subst hk <;> simp at h ⊢

/-- the cells of a comprehension's frame -/
theorem comp_own (K : ScopeOk sc csc) {x : Str} (h : csc.names.lookup x = some .cell) : ∃ c, (compEnv20 csc C env).cells.lookup x = some c ∧ (x, c) ∈ cellsFrom (C + 1) csc.names [] := by
  obtain ⟨c, hc⟩ := cellsFrom_has csc.names (C + 1) x (mem_of_lookup h)
  obtain ⟨c', hc'⟩ := lookup_has hc
  refine ⟨c', ?_, mem_of_lookup hc'⟩
  show (cellsFrom (C + 1) csc.names (clos env csc.names [])).lookup x = some c'
  rw [cellsFrom_app]
  exact lookup_app_left hc'
theorem comp_free (K : ScopeOk sc csc) {x : Str} {c : Addr} (h : csc.names.lookup x = some .free) (he : env.cells.lookup x = some c) : (compEnv20 csc C env).cells.lookup x = some c := by
  show (cellsFrom (C + 1) csc.names (clos env csc.names [])).lookup x = some c
  rw [cellsFrom_app, lookup_app fun c' hc' => ?_]
  · obtain ⟨c', hc'⟩ := lookup_has (clos_has env csc.names [] x (mem_of_lookup h))
    rw [hc']
    rcases clos_mem env _ _ _ _ (mem_of_lookup hc') with h' | h'
    · cases h'
    · rw [h'.2, he]; rfl
  · have := K.names _ (cellsFrom_mem _ _ _ _ hc')
    dsimp only at this
    rw [h] at this
    cases this

theorem comp_fit (K : ScopeOk sc csc) (F : Fit sc env) : Fit csc (compEnv20 csc C env) where
  kind := K.kind
  glob := F.glob
  blt := F.blt
  loc := fun x h => by rw [comp_kind h]; rfl
  gl := fun x h => by rw [comp_kind h]; rfl
  cel := fun x h => by rw [comp_kind h]; rfl
  fre := fun x h => by
    rw [comp_kind h]
    split
    · exact .inr rfl
    · exact .inl rfl
  hasCell := fun x h => by
    rcases comp_cellish K h with h | h
    · obtain ⟨c, hc, _⟩ := comp_own (C := C) (env := env) K h; exact ⟨c, hc⟩
    · have : env.kindOf x = some .cell ∨ env.kindOf x = some .free := by
        rcases K.free x (mem_of_lookup h) with k | k
        · exact .inl (F.cel x k)
        · exact (F.fre x k).symm
      obtain ⟨c, hc⟩ := F.hasCell x this
      exact ⟨c, comp_free K h hc⟩

/-- the places of a comprehension's frame, its list, its iterators -/
noncomputable def CM (C : Addr) (csc : Scope) (more : List Addr) (a : Addr) : Prop := a = C ∨ (∃ n, (n, a) ∈ cellsFrom (C + 1) csc.names []) ∨ a ∈ more

theorem outer_cellish (K : ScopeOk sc csc) (F : Fit sc env) {x : Str} (h : csc.names.lookup x = some .free) : env.kindOf x = some .cell ∨ env.kindOf x = some .free := by
  rcases K.free x (mem_of_lookup h) with k | k
  · exact .inl (F.cel x k)
  · exact (F.fre x k).symm

theorem comp_frm {h : Heap} {more : List Addr} (K : ScopeOk sc csc) (F : Fit sc env) (ok : CellsOk h (C + 1) (cellsFrom (C + 1) csc.names []))
    (old : ∀ x c, (env.kindOf x = some .cell ∨ env.kindOf x = some .free) → env.cells.lookup x = some c → c < C) : Frm (compEnv20 csc C env) csc (CM C csc more) where
  fit := comp_fit K F
  L := .inl rfl
  own := fun x c hx hc => by
    obtain ⟨c', e, m⟩ := comp_own (C := C) (env := env) K hx
    rw [hc] at e; cases e
    exact .inr (.inl ⟨x, m⟩)
  apart := fun x c hx hc => by
    rcases comp_cellish K hx with h | h
    · obtain ⟨c', e, m⟩ := comp_own (C := C) (env := env) K h
      rw [hc] at e; cases e
      exact Nat.ne_of_gt (ok.empty _ _ m).2
    · have k := outer_cellish K F h
      obtain ⟨c', hc'⟩ := F.hasCell x k
      have e := comp_free (C := C) K h hc'
      rw [hc] at e; cases e
      exact Nat.ne_of_lt (old x c k hc')
  inj := fun x y c hx hxy hc hy => by
    obtain ⟨c', e, m⟩ := comp_own (C := C) (env := env) K hx
    rw [hc] at e; cases e
    intro hyc
    rcases comp_cellish K hy with h | h
    · obtain ⟨c', e, m'⟩ := comp_own (C := C) (env := env) K h
      rw [hyc] at e; cases e
      exact hxy (name_of_addr ok.apart m m')
    · have k := outer_cellish K F h
      obtain ⟨c', hc'⟩ := F.hasCell y k
      have e := comp_free (C := C) K h hc'
      rw [hyc] at e; cases e
      have h1 := (ok.empty _ _ m).2
      have h2 := old y c k hc'
      exact absurd (Nat.lt_trans h2 h1) (Nat.lt_irrefl _)

/-- what is seen within, of what is seen without -/
theorem comp_vars (K : ScopeOk sc csc) (F : Fit sc env) (V : Vars prog w g μ env σ s) : Vars prog w g μ (compEnv20 csc C env) (restr σ (visOf csc)) s := by
  intro x i d hi hd
  unfold restr at hd
  split at hd
  · rename_i hv
    have hm : i ∈ visOf csc := by simpa using hv
    unfold visOf at hm
    rw [List.mem_filterMap] at hm
    obtain ⟨p, hp, hpe⟩ := hm
    split at hpe
    · rename_i hk
      have hfr : p.2 = .free := by simpa using hk
      obtain rfl := vid_inj hi hpe
      have hl : csc.names.lookup p.1 = some .free := by rw [K.names p hp, hfr]
      obtain ⟨v, hv, rv⟩ := V p.1 i d hi hd
      have k := outer_cellish K F hl
      rcases hv with ⟨q, _⟩ | ⟨q, c, hc, hcv⟩
      · rcases k with k | k <;> (rw [q] at k; cases k)
      · refine ⟨v, .inr ⟨?_, c, comp_free K hl hc, hcv⟩, rv⟩
        rw [comp_kind hl]
        split
        · exact .inl rfl
        · exact .inr rfl
    · cases hpe
  · cases hd

theorem comp_at {M : Addr → Prop} (K : ScopeOk sc csc) (F : Fit sc env) (a₁ : At prog w mg mb tab g₁ μ env σ s₁) (dy : Dyn s₁ g₁ (compEnv20 csc C env) csc M g s) (V : Vars prog w g μ (compEnv20 csc C env) τ s) : At prog w mg mb tab g μ (compEnv20 csc C env) τ s where
  gin := dy.step.gin
  min := a₁.min.ext dy.step.keep.ext
  stat := a₁.stat.keeps dy.step.keep.ext
  var := V
  cel := fun x c hx hc => by
    rcases comp_cellish K hx with h | h
    · obtain ⟨c', u, e, q⟩ := dy.cel x h
      rw [hc] at e; cases e
      exact ⟨u, q⟩
    · have k := outer_cellish K F h
      obtain ⟨c', hc'⟩ := F.hasCell x k
      have e := comp_free (C := C) K h hc'
      rw [hc] at e; cases e
      obtain ⟨u, q⟩ := a₁.cel x c k hc'
      exact ⟨u, q.keeps dy.step.keep.ext⟩

/-- the frame as it is laid: the heap with the accumulator D at hand, the names' dict and the cells pushed -/
theorem comp_dyn {h₃ : Heap} {more : List Addr} {tk : Nat} (K : ScopeOk sc csc) (gi : g₁.In s₁.heap) (ext : Ext s₁.heap h₃) (hm : ∀ a ∈ more, s₁.heap.get? a = none ∧ ∃ o, h₃.get? a = some o) :
    CellsOk (pushCells (h₃.push { cls := .type "dict", data := .dict #[] }) csc.names) (h₃.objs.size + 1) (cellsFrom (h₃.objs.size + 1) csc.names []) ∧
    Dyn s₁ g₁ (compEnv20 csc h₃.objs.size env) csc (CM h₃.objs.size csc more) g₁ { s₁ with heap := pushCells (h₃.push { cls := .type "dict", data := .dict #[] }) csc.names, toks := tk } := by
  have hz : (h₃.push ({ cls := .type "dict", data := .dict #[] } : Obj)).objs.size = h₃.objs.size + 1 := Heap.size_push ..
  have ok := cellsFrom_ok csc.names (h₃.push ({ cls := .type "dict", data := .dict #[] } : Obj)) (h₃.objs.size + 1) [] ⟨(fun n c h => by cases h), List.Pairwise.nil⟩ (by rw [hz]; exact Nat.le_refl _)
  rw [hz] at ok
  have ext' : Ext s₁.heap (pushCells (h₃.push { cls := .type "dict", data := .dict #[] }) csc.names) := fun b o e => pushCells_keeps _ _ _ _ (Heap.get?_push_of_some _ (ext b o e))
  have fresh : ∀ a, h₃.get? a = none → s₁.heap.get? a = none := fun a e => none_of_keep ext e
  have new : ∀ a, CM h₃.objs.size csc more a → s₁.heap.get? a = none := fun a ha => by
    rcases ha with rfl | ⟨n, hn⟩ | ha
    · exact fresh _ (get?_size _)
    · exact fresh _ (Heap.get?_none_of_le (Nat.le_of_lt (ok.empty _ _ hn).2))
    · exact (hm a ha).1
  refine ⟨ok, .of gi (.mk' ext'), new, fun a ha => Zone.none_of gi (new a ha), fun a ha => ?_, ⟨_, (Heap.Ns.new _ _).keeps fun b o e => pushCells_keeps _ _ _ _ e⟩, fun x hx => ?_⟩
  · rcases ha with rfl | ⟨n, hn⟩ | ha
    · exact ⟨_, pushCells_keeps _ _ _ _ (Heap.get?_push_size _ rfl)⟩
    · obtain ⟨⟨o, ho, _⟩, _⟩ := ok.empty _ _ hn; exact ⟨o, ho⟩
    · obtain ⟨o, ho⟩ := (hm a ha).2; exact ⟨o, pushCells_keeps _ _ _ _ (Heap.get?_push_of_some _ ho)⟩
  · obtain ⟨c, hc, m⟩ := comp_own (C := h₃.objs.size) (env := env) K hx
    exact ⟨c, none, hc, (ok.empty _ _ m).1⟩
end
end Cut20
namespace Cut20

/-! A comprehension's turns. -/
noncomputable def listTurn (e : Expr) (dep : Nat) (p : Pos) (target : Expr) (ifs : List Expr) (elt : Expr) (it acc : Value) (env : Env) : Sem PySem.Fin := do
  standAt p
  match ← pyNext it with
  | none => pure (.done .next)
  | some v =>
    letOwnedTupleGo target it v
    assign target env v
    let mut ok := true
    for c in ifs do
      if ok then ok ← isTrue c env (eval c env)
    if ok then
      (do let _ ← call (.builtin "list.append") [acc, ← eval elt env])
    again (.compLoop e dep it acc env)
theorem list1_eq (elt target iter : Expr) (ifs : List Expr) (scope : Scope) (pos : Pos) (it acc : Value) (env : Env) :
    compTurn (.ListComp elt [⟨target, iter, ifs, 0⟩] scope pos) 0 it acc env = listTurn (.ListComp elt [⟨target, iter, ifs, 0⟩] scope pos) 0 iter.pos target ifs elt it acc env := by rfl
theorem list2_in (elt target iter : Expr) (ifs : List Expr) (c : Comprehension) (scope : Scope) (pos : Pos) (it acc : Value) (env : Env) :
    compTurn (.ListComp elt [c, ⟨target, iter, ifs, 0⟩] scope pos) 1 it acc env = listTurn (.ListComp elt [c, ⟨target, iter, ifs, 0⟩] scope pos) 1 iter.pos target ifs elt it acc env := by rfl
noncomputable def outTurn (e : Expr) (p : Pos) (target : Expr) (g' : Comprehension) (it acc : Value) (env : Env) : Sem PySem.Fin := do
  standAt p
  match ← pyNext it with
  | none => pure (.done .next)
  | some v =>
    letOwnedTupleGo target it v
    assign target env v
    let x ← eval g'.iter env
    standAt g'.iter.pos
    let x ← foldedSetIterable g'.iter env x
    let _ ← runOwn (.compStart e 1 (← holding [x] (pyIter x)) acc env) env
    again (.compLoop e 0 it acc env)
theorem list2_out (elt target iter target2 iter2 : Expr) (ifs2 : List Expr) (scope : Scope) (pos : Pos) (it acc : Value) (env : Env) :
    compTurn (.ListComp elt [⟨target, iter, [], 0⟩, ⟨target2, iter2, ifs2, 0⟩] scope pos) 0 it acc env = outTurn (.ListComp elt [⟨target, iter, [], 0⟩, ⟨target2, iter2, ifs2, 0⟩] scope pos) iter.pos target ⟨target2, iter2, ifs2, 0⟩ it acc env := by
  unfold outTurn
  simp [compTurn]
  rfl
noncomputable def dictTurn (e : Expr) (p : Pos) (target : Expr) (kx vx : Expr) (it : Value) (D : Addr) (env : Env) : Sem PySem.Fin := do
  standAt p
  match ← pyNext it with
  | none => pure (.done .next)
  | some v =>
    letOwnedTupleGo target it v
    assign target env v
    let kv ← eval kx env
    let vv ← holding [kv] (eval vx env)
    standAt { kx.pos with endLine := vx.pos.endLine, endCol := vx.pos.endCol }
    holding [kv, vv] (dictSet D kv vv)
    again (.compLoop e 0 it (.ref D) env)
theorem dict_eq (kx vx target iter : Expr) (scope : Scope) (pos : Pos) (it : Value) (D : Addr) (env : Env) :
    compTurn (.DictComp kx vx [⟨target, iter, [], 0⟩] scope pos) 0 it (.ref D) env = dictTurn (.DictComp kx vx [⟨target, iter, [], 0⟩] scope pos) iter.pos target kx vx it D env := by
  unfold dictTurn
  simp [compTurn]
  rfl
end Cut20
namespace Cut20

section
variable {prog : Program} {w : World} {A : Around} {R : Result → Shared → Prop} {s : Shared} {env : Env}

theorem no_noted {Q : Shared → Prop} : ∀ e s', noE e s' → notedBy (model prog w) A env (fun e s' => R (.error e) s') e s' := fun _ _ h => h.elim

noncomputable def compTest (ifs : List Expr) (env : Env) : Sem Bool := forIn ifs true fun c r => if r = true then do let ok ← isTrue c env (eval c env); pure (ForInStep.yield ok) else pure (ForInStep.yield r)
theorem list_loop {elt : Expr} {gens : List Comprehension} {scope : Scope} {pos p : Pos} {dep : Nat} {target : Expr} {ifs : List Expr} {it acc : Value}
    (heq : compTurn (.ListComp elt gens scope pos) dep it acc env = listTurn (.ListComp elt gens scope pos) dep p target ifs elt it acc env) (I : Nat → Shared → Prop)
    (turn : ∀ n s, I n s → wpAny (model prog w) A (pyNext it) (fun r s₁ => match r with
      | none => R (.ok .next) s₁
      | some v => wpAny (model prog w) A (letOwnedTupleGo target it v) (fun _ s₁' => wpAny (model prog w) A (assign target env v) (fun _ s₂ =>
          wpAny (model prog w) A (compTest ifs env) (fun ok s₃ =>
            if ok = true then wpAny (model prog w) A (eval elt env) (fun x s₄ =>
              wpAny (model prog w) A (call (.builtin "list.append") [acc, x]) (fun _ s₅ => ∃ m, m < n ∧ I m s₅) noE s₄) noE s₃
            else ∃ m, m < n ∧ I m s₃) noE s₂) noE s₁') noE s₁) noE s)
    (n : Nat) (h : I n s) : codeAny (model prog w) A (.compLoop (.ListComp elt gens scope pos) dep it acc env) R s := by
  refine codeAny_loop rfl I (fun n s hI => ?_) n h
  show wpAny _ A ((compTurn (.ListComp elt gens scope pos) dep it acc env).onRaise (fun x => do noteFrame x env; theTreesLotGoes x)) _ _ s
  refine wpAny_noted ?_
  rw [heq]
  unfold listTurn
  refine wpAny_bind (wpAny_standAt (wpAny_bind (wpAny_mono (turn n s hI) (fun r s₁ h₁ => ?_) fun _ _ h' => h'.elim)))
  cases r with
  | none => exact wpAny_pure h₁
  | some v =>
    refine wpAny_bind (wpAny_mono h₁ (fun _ s₁' h₁' => wpAny_bind (wpAny_mono h₁' (fun _ s₂ h₂ => wpAny_bind (wpAny_mono h₂ (fun ok s₃ h₃ => ?_) fun _ _ h' => h'.elim)) fun _ _ h' => h'.elim)) fun _ _ h' => h'.elim)
    cases ok with
    | false => exact wpAny_pure ⟨rfl, h₃⟩
    | true =>
      exact wpAny_bind (wpAny_bind (wpAny_mono h₃ (fun x s₄ h₄ => wpAny_bind (wpAny_mono h₄ (fun _ s₅ h₅ => wpAny_pure (wpAny_pure ⟨rfl, h₅⟩)) fun _ _ h' => h'.elim)) fun _ _ h' => h'.elim))

theorem out_loop {elt : Expr} {gens : List Comprehension} {scope : Scope} {pos p : Pos} {target : Expr} {g' : Comprehension} {it acc : Value} (hs : ∀ x, foldedSetIterable g'.iter env x = pure x)
    (heq : compTurn (.ListComp elt gens scope pos) 0 it acc env = outTurn (.ListComp elt gens scope pos) p target g' it acc env) (I : Nat → Shared → Prop)
    (turn : ∀ n s, I n s → wpAny (model prog w) A (pyNext it) (fun r s₁ => match r with
      | none => R (.ok .next) s₁
      | some v => wpAny (model prog w) A (letOwnedTupleGo target it v) (fun _ s₁' => wpAny (model prog w) A (assign target env v) (fun _ s₂ =>
          wpAny (model prog w) A (eval g'.iter env) (fun x s₃ => wpAny (model prog w) A (pyIter x) (fun it' s₄ =>
            codeAny (model prog w) A (.compStart (.ListComp elt gens scope pos) 1 it' acc env) (fun r s₅ => r = .ok .next ∧ ∃ m, m < n ∧ I m s₅) s₄) noE s₃) noE s₂) noE s₁') noE s₁) noE s)
    (n : Nat) (h : I n s) : codeAny (model prog w) A (.compLoop (.ListComp elt gens scope pos) 0 it acc env) R s := by
  refine codeAny_loop rfl I (fun n s hI => ?_) n h
  show wpAny _ A ((compTurn (.ListComp elt gens scope pos) 0 it acc env).onRaise (fun x => do noteFrame x env; theTreesLotGoes x)) _ _ s
  refine wpAny_noted ?_
  rw [heq]
  unfold outTurn
  refine wpAny_bind (wpAny_standAt (wpAny_bind (wpAny_mono (turn n s hI) (fun r s₁ h₁ => ?_) fun _ _ h' => h'.elim)))
  cases r with
  | none => exact wpAny_pure h₁
  | some v =>
    refine wpAny_bind (wpAny_mono h₁ (fun _ s₁' h₁' => wpAny_bind (wpAny_mono h₁' (fun _ s₂ h₂ => wpAny_bind (wpAny_mono h₂ (fun x s₃ h₃ => ?_) fun _ _ h' => h'.elim)) fun _ _ h' => h'.elim)) fun _ _ h' => h'.elim)
    refine wpAny_bind (wpAny_standAt (wpAny_bind ?_))
    rw [hs]
    refine wpAny_pure (wpAny_bind (wpAny_holding (wpAny_mono h₃ (fun it' s₄ h₄ => ?_) fun _ _ h' => h'.elim)))
    refine wpAny_bind (wpAny_runOwn (h := none) (codeAny_mono h₄ fun r s₅ h₅ => ?_))
    obtain ⟨rfl, h₅⟩ := h₅
    exact wpAny_pure ⟨rfl, h₅⟩

theorem dict_loop {kx vx : Expr} {gens : List Comprehension} {scope : Scope} {pos p : Pos} {target : Expr} {it : Value} {D : Addr}
    (heq : compTurn (.DictComp kx vx gens scope pos) 0 it (.ref D) env = dictTurn (.DictComp kx vx gens scope pos) p target kx vx it D env) (I : Nat → Shared → Prop)
    (turn : ∀ n s, I n s → wpAny (model prog w) A (pyNext it) (fun r s₁ => match r with
      | none => R (.ok .next) s₁
      | some v => wpAny (model prog w) A (letOwnedTupleGo target it v) (fun _ s₁' => wpAny (model prog w) A (assign target env v) (fun _ s₂ =>
          wpAny (model prog w) A (eval kx env) (fun kv s₃ => wpAny (model prog w) A (eval vx env) (fun vv s₄ => wpAny (model prog w) A (dictSet D kv vv) (fun _ s₅ => ∃ m, m < n ∧ I m s₅) noE s₄) noE s₃) noE s₂) noE s₁') noE s₁) noE s)
    (n : Nat) (h : I n s) : codeAny (model prog w) A (.compLoop (.DictComp kx vx gens scope pos) 0 it (.ref D) env) R s := by
  refine codeAny_loop rfl I (fun n s hI => ?_) n h
  show wpAny _ A ((compTurn (.DictComp kx vx gens scope pos) 0 it (.ref D) env).onRaise (fun x => do noteFrame x env; theTreesLotGoes x)) _ _ s
  refine wpAny_noted ?_
  rw [heq]
  unfold dictTurn
  refine wpAny_bind (wpAny_standAt (wpAny_bind (wpAny_mono (turn n s hI) (fun r s₁ h₁ => ?_) fun _ _ h' => h'.elim)))
  cases r with
  | none => exact wpAny_pure h₁
  | some v =>
    refine wpAny_bind (wpAny_mono h₁ (fun _ s₁' h₁' => wpAny_bind (wpAny_mono h₁' (fun _ s₂ h₂ => wpAny_bind (wpAny_mono h₂ (fun x s₃ h₃ => ?_) fun _ _ h' => h'.elim)) fun _ _ h' => h'.elim)) fun _ _ h' => h'.elim)
    refine wpAny_bind (wpAny_holding (wpAny_mono h₃ (fun vv s₄ h₄ => ?_) fun _ _ h' => h'.elim))
    refine wpAny_bind (wpAny_standAt (wpAny_bind (wpAny_holding (wpAny_mono h₄ (fun _ s₅ h₅ => ?_) fun _ _ h' => h'.elim))))
    exact wpAny_pure ⟨rfl, h₅⟩

theorem list_start {elt : Expr} {gens : List Comprehension} {scope : Scope} {pos : Pos} {dep : Nat} {it acc : Value} {t : Expr} {i : Expr} {ifs : List Expr} (hg : gens[dep]? = some ⟨t, i, ifs, 0⟩)
    (h : ∀ it', it' = it → codeAny (model prog w) A (.compLoop (.ListComp elt gens scope pos) dep it' acc env) R s) (hi : ∀ (Q : Value → Shared → Prop), Q it s → wpAny (model prog w) A (pyIter it) Q noE s) :
    codeAny (model prog w) A (.compStart (.ListComp elt gens scope pos) dep it acc env) R s := by
  refine codeAny_of_tree ?_
  show wpAny _ A ((compStart (.ListComp elt gens scope pos) dep it acc env).onRaise (fun x => do noteFrame x env; standAt theWindowsPlace)) _ _ s
  refine wpAny_notedAt ?_
  have e : compStart (.ListComp elt gens scope pos) dep it acc env = (do
      if (← ask).params.followText "comprehension-iter-twice" then return ← again (.compLoop (.ListComp elt gens scope pos) dep it acc env)
      rule "comprehension.iter-twice"
      standAt i.pos
      again (.compLoop (.ListComp elt gens scope pos) dep (← pyIter it) acc env)) := by
    unfold compStart
    simp [clausesOf, hg]
  rw [e]
  refine wpAny_bind (wpAny_askSetting (wpAny_ite ?_))
  split
  · first
      | exact wpAny_bind (wpAny_pure (wpAny_pure (And.intro rfl (h it rfl))))
      | exact wpAny_pure (And.intro rfl (h it rfl))
  · refine wpAny_bind (wpAny_rule (wpAny_bind (wpAny_standAt (wpAny_bind (wpAny_mono (hi (fun v s' => v = it ∧ s' = s) ⟨rfl, rfl⟩) (fun v s' hv => ?_) fun _ _ h' => h'.elim)))))
    obtain ⟨rfl, rfl⟩ := hv
    exact wpAny_pure ⟨rfl, h _ rfl⟩
theorem dict_start {kx vx : Expr} {gens : List Comprehension} {scope : Scope} {pos : Pos} {it acc : Value} {t : Expr} {i : Expr} {ifs : List Expr} (hg : gens[0]? = some ⟨t, i, ifs, 0⟩)
    (h : ∀ it', it' = it → codeAny (model prog w) A (.compLoop (.DictComp kx vx gens scope pos) 0 it' acc env) R s) (hi : ∀ (Q : Value → Shared → Prop), Q it s → wpAny (model prog w) A (pyIter it) Q noE s) :
    codeAny (model prog w) A (.compStart (.DictComp kx vx gens scope pos) 0 it acc env) R s := by
  refine codeAny_of_tree ?_
  show wpAny _ A ((compStart (.DictComp kx vx gens scope pos) 0 it acc env).onRaise (fun x => do noteFrame x env; standAt theWindowsPlace)) _ _ s
  refine wpAny_notedAt ?_
  have e : compStart (.DictComp kx vx gens scope pos) 0 it acc env = (do
      if (← ask).params.followText "comprehension-iter-twice" then return ← again (.compLoop (.DictComp kx vx gens scope pos) 0 it acc env)
      rule "comprehension.iter-twice"
      standAt i.pos
      again (.compLoop (.DictComp kx vx gens scope pos) 0 (← pyIter it) acc env)) := by
    unfold compStart
    simp [clausesOf, hg]
  rw [e]
  refine wpAny_bind (wpAny_askSetting (wpAny_ite ?_))
  split
  · first
      | exact wpAny_bind (wpAny_pure (wpAny_pure (And.intro rfl (h it rfl))))
      | exact wpAny_pure (And.intro rfl (h it rfl))
  · refine wpAny_bind (wpAny_rule (wpAny_bind (wpAny_standAt (wpAny_bind (wpAny_mono (hi (fun v s' => v = it ∧ s' = s) ⟨rfl, rfl⟩) (fun v s' hv => ?_) fun _ _ h' => h'.elim)))))
    obtain ⟨rfl, rfl⟩ := hv
    exact wpAny_pure ⟨rfl, h _ rfl⟩
end
end Cut20
namespace Cut20

noncomputable def tids : Tgt → List Nat
  | .one x => [x]
  | .two x y => [x, y]
noncomputable def less (t : Tgt) (τ : Sg) : Sg := fun i => if (tids t).contains i then none else τ i
theorem bindT_less {t : Tgt} {d : PV} {τ : Sg} : bindT t d (less t τ) = bindT t d τ := by
  cases t with
  | one x =>
    simp only [bindT, Option.some.injEq]
    funext i
    unfold upd less
    by_cases h : i = x
    · rw [if_pos h, if_pos h]
    · rw [if_neg h, if_neg h, if_neg (by simp [tids, h])]
  | two x y =>
    simp only [bindT]
    split
    · simp only [Option.some.injEq]
      funext i
      unfold upd less
      by_cases h : i = y
      · rw [if_pos h, if_pos h]
      · rw [if_neg h, if_neg h]
        by_cases h' : i = x
        · rw [if_pos h', if_pos h']
        · rw [if_neg h', if_neg h', if_neg (by simp [tids, h, h'])]
    · rfl
theorem bindT_sub {t : Tgt} {d : PV} {τ τ' : Sg} (h : bindT t d τ = some τ') {i : Nat} {e : PV} (he : less t τ i = some e) : τ' i = some e := by
  unfold less at he
  split at he
  · cases he
  · rename_i hn
    cases t with
    | one x =>
      simp only [bindT, Option.some.injEq] at h
      subst h
      have : ¬ i = x := by simpa [tids] using hn
      unfold upd; rw [if_neg this]; exact he
    | two x y =>
      obtain ⟨p, q, rfl, rfl⟩ := bindT_two h
      have : ¬ i = x ∧ ¬ i = y := by simpa [tids] using hn
      unfold upd; rw [if_neg this.2, if_neg this.1]; exact he

section
variable {prog : Program} {w : World} {mg mb : Str → Option Value} {tab : Str → Option Int} {call : Nat → List PV → Cb → Prop} {k : Nat} {A : Around} {s s₁ s' : Shared} {g g₁ g' μ : Zone} {env : Env} {sc csc : Scope} {σ τ : Sg} {C : Addr} {M : Addr → Prop}

theorem Vars.sub (h : Vars prog w g μ env σ s) (hs : ∀ i e, τ i = some e → σ i = some e) : Vars prog w g μ env τ s := fun x i d a b => h x i d a (hs i d b)
noncomputable def Away (env : Env) (a : Addr) : Prop := a ≠ env.locals ∧ ∀ x c, (env.kindOf x = some .cell ∨ env.kindOf x = some .free) → env.cells.lookup x = some c → c ≠ a
theorem Away.else (h : Away env C) (F : Fit sc env) : Else env sc C := ⟨h.1, fun y hy e => h.2 y C (.inl (F.cel y hy)) e rfl⟩
theorem Vars.write {a : Addr} {h' : Heap} {tk : Nat} (h : Vars prog w g μ env σ s) (ha : Away env a) (hk : ∀ b o, b ≠ a → s.heap.get? b = some o → h'.get? b = some o) : Vars prog w g μ env σ { s with heap := h', toks := tk } :=
  fun x i d p q => let ⟨v, hv, r⟩ := h x i d p q; ⟨v, by
    rcases hv with ⟨p, m, n, e⟩ | ⟨p, c, e, o, ho, hd⟩
    · exact .inl ⟨p, m, n.at' fun o e => hk _ o (Ne.symm ha.1) e, e⟩
    · exact .inr ⟨p, c, e, o, hk _ _ (ha.2 x c p e) ho, hd⟩, r⟩

/-- the list that is filled -/
noncomputable def Acc (prog : Program) (w : World) (g : Zone) (D : Addr) (ac : List PV) (h : Heap) : Prop := ∃ vs n, h.get? D = some ({ cls := .type "list", data := .seq (vs : List Value).toArray n } : Obj) ∧ RepAll prog w g vs ac
theorem Acc.keep {D : Addr} {ac : List PV} {h h' : Heap} (x : Acc prog w g D ac h) (hl : g.le g') (hk : ∀ o, h.get? D = some o → h'.get? D = some o) : Acc prog w g' D ac h' :=
  let ⟨vs, n, a, b⟩ := x; ⟨vs, n, hk _ a, b.up hl⟩

noncomputable def stepL (tab : Str → Option Int) (call : Nat → List PV → Cb → Prop) (t : Tgt) (hc : Bool) (cond elt : IE) (τ₀ : Sg) (d : PV) (K : List PV → Prop) (acc : List PV) : Prop :=
  match bindT t d τ₀ with
  | some τ => if hc then W tab call cond τ fun b => truth b fun ok => if ok then W tab call elt τ fun e => e.fz ∧ K (acc ++ [e]) else K acc
      else W tab call elt τ fun e => e.fz ∧ K (acc ++ [e])
  | Option.none => False

theorem stepL_some {t : Tgt} {hc : Bool} {cond elt : IE} {τ₀ τ : Sg} {d : PV} {K : List PV → Prop} {acc : List PV} (h : bindT t d τ₀ = some τ) :
    stepL tab call t hc cond elt τ₀ d K acc = if hc then W tab call cond τ fun b => truth b fun ok => if ok then W tab call elt τ fun e => e.fz ∧ K (acc ++ [e]) else K acc
      else W tab call elt τ fun e => e.fz ∧ K (acc ++ [e]) := by unfold stepL; rw [h]
theorem stepL_none {t : Tgt} {hc : Bool} {cond elt : IE} {τ₀ : Sg} {d : PV} {K : List PV → Prop} {acc : List PV} (h : bindT t d τ₀ = none) : stepL tab call t hc cond elt τ₀ d K acc = False := by unfold stepL; rw [h]
/-- the inmost loop of a list comprehension -/
theorem list_body {elt : Expr} {gens : List Comprehension} {scope : Scope} {pos p : Pos} {dep : Nat} {te : Expr} {t : Tgt} {ifs : List Expr} {hc : Bool} {cond ie : IE} {I D : Addr} {ds : List PV} {St : Nat → Heap → Prop} {r : Rec} {B : Nat} {fin : List PV → Prop} {τ₀ : Sg} {s₂ : Shared} {g₂ : Zone}
    {R : Result → Shared → Prop}
    (hr : SndR prog w mg mb tab call k r) (Rm : Room k A) (K : ScopeOk sc csc) (F : Fit sc env) (Fm : Frm (compEnv20 csc C env) csc M) (a₁ : At prog w mg mb tab g₁ μ env σ s₁)
    (heq : compTurn (.ListComp elt gens scope pos) dep (.ref I) (.ref D) (compEnv20 csc C env) = listTurn (.ListComp elt gens scope pos) dep p te ifs elt (.ref I) (.ref D) (compEnv20 csc C env))
    (ht : cTgt (ownName csc) te = some t) (hcc : cCond r csc ifs = some (hc, cond)) (he : r csc elt = some ie)
    (src : Src prog w A g₂ μ I ds St) (hI : M I) (hD : M D) (hID : I ≠ D) (aI : Away (compEnv20 csc C env) I) (aD : Away (compEnv20 csc C env) D) (hlen : B + ds.length ≤ 1000000)
    (d₂ : Dyn s₁ g₁ (compEnv20 csc C env) csc M g₂ s₂) (h0 : St 0 s₂.heap) (V₂ : Vars prog w g₂ μ (compEnv20 csc C env) (less t τ₀) s₂) {ac₂ : List PV} (hac : Acc prog w g₂ D ac₂ s₂.heap) (hB : ac₂.length ≤ B)
    (hW : ds.foldr (stepL tab call t hc cond ie τ₀) fin ac₂)
    (hfin : ∀ g s ac, fin ac → Dyn s₁ g₁ (compEnv20 csc C env) csc (fun b => M b ∧ b ≠ I) g s → g₂.le g → Acc prog w g D ac s.heap → ac.length ≤ B + ds.length → Vars prog w g μ (compEnv20 csc C env) (less t τ₀) s →
      (∀ b o, b ≠ I → b ≠ D → Else (compEnv20 csc C env) csc b → s₂.heap.get? b = some o → s.heap.get? b = some o) → R (.ok .next) s) :
    codeAny (model prog w) A (.compLoop (.ListComp elt gens scope pos) dep (.ref I) (.ref D) (compEnv20 csc C env)) R s₂ := by
  have eI := aI.else (comp_fit (C := C) K F)
  have eD := aD.else (comp_fit (C := C) K F)
  refine list_loop heq (fun n s => ∃ i g ac, n = ds.length + 1 - i ∧ i ≤ ds.length ∧ Dyn s₁ g₁ (compEnv20 csc C env) csc M g s ∧ g₂.le g ∧ St i s.heap ∧ Acc prog w g D ac s.heap ∧ ac.length ≤ B + i ∧ Vars prog w g μ (compEnv20 csc C env) (less t τ₀) s ∧
      (∀ b o, b ≠ I → b ≠ D → Else (compEnv20 csc C env) csc b → s₂.heap.get? b = some o → s.heap.get? b = some o) ∧ (ds.drop i).foldr (stepL tab call t hc cond ie τ₀) fin ac) ?_ (ds.length + 1)
    ⟨0, g₂, ac₂, rfl, Nat.zero_le _, d₂, Zone.le.refl _, h0, hac, by omega, V₂, fun _ _ _ _ _ e => e, by simpa using hW⟩
  rintro n s ⟨i, g, ac, rfl, hi, dy, le, st, hA, hl, V, kept, hf⟩
  rcases Nat.lt_or_ge i ds.length with hlt | hge
  · rw [List.drop_eq_getElem_cons hlt, List.foldr_cons] at hf
    cases hb : bindT t ds[i] τ₀ with
    | none => rw [stepL_none hb] at hf; exact hf.elim
    | some τ =>
      rw [stepL_some hb] at hf
      refine src.item i s _ _ hlt st fun v d h₁ tk₁ hd rd st₁ k₁ => ?_
      rw [List.getElem?_eq_getElem hlt] at hd
      cases hd
      have dy₁ := dy.touch (tk := tk₁) hI k₁ (src.here _ _ st₁) eI.1 (fun x c hx hc' e => eI.2 x hx (e ▸ hc'))
      have V₁ := V.write (tk := tk₁) aI k₁
      have A₁ : Acc prog w g D ac h₁ := hA.keep (Zone.le.refl _) fun o e => k₁ _ o (Ne.symm hID) e
      have kept₁ : ∀ b o, b ≠ I → b ≠ D → Else (compEnv20 csc C env) csc b → s₂.heap.get? b = some o → h₁.get? b = some o := fun b o h1 h2 h3 e => k₁ b o h1 (kept b o h1 h2 h3 e)
      refine src.go _ _ _ _ _ _ st₁ ?_
      rw [← bindT_less] at hb
      have stf : ∀ {j : Nat} {h h' : Heap} {g₃ : Zone} {s₃ : Shared}, g₂.le g₃ → Dyn s₁ g₁ (compEnv20 csc C env) csc M g₃ s₃ → (∀ b o, b = I ∨ (Else (compEnv20 csc C env) csc b ∧ b ≠ D) → h.get? b = some o → h'.get? b = some o) → St j h → St j h' := by
        intro j h h' g₃ s₃ l₃ d₃ hk sj
        refine src.frame j h h' sj fun b o hb e => hk b o ?_ e
        rcases hb with rfl | ⟨o', hb⟩ | ⟨o', hb⟩
        · exact .inl rfl
        · have ne : ∀ a, M a → b ≠ a := fun a ha q => by have := d₃.out a ha; rw [← q, l₃ _ _ hb] at this; cases this
          exact .inr ⟨⟨ne _ Fm.L, fun y hy q => ne _ (Fm.own y _ hy q) rfl⟩, ne _ hD⟩
        · have ne : ∀ a, M a → b ≠ a := fun a ha q => by have := d₃.new a ha; rw [← q, a₁.min _ _ hb] at this; cases this
          exact .inr ⟨⟨ne _ Fm.L, fun y hy q => ne _ (Fm.own y _ hy q) rfl⟩, ne _ hD⟩
      refine bind_ok Rm.handled Fm dy₁ V₁ ht (rd.up le) hb fun h₂ tk₂ dy₂ V₂' k₂ => ?_
      have st₂ : St (i + 1) h₂ := stf le dy₂ (fun b o hb e => k₂ b o (hb.elim (fun q => q ▸ eI) fun q => q.1) e) st₁
      have A₂ : Acc prog w g D ac h₂ := A₁.keep (Zone.le.refl _) fun o e => k₂ _ o eD e
      have kept₂ : ∀ b o, b ≠ I → b ≠ D → Else (compEnv20 csc C env) csc b → s₂.heap.get? b = some o → h₂.get? b = some o := fun b o h1 h2 h3 e => k₂ b o h3 (kept₁ b o h1 h2 h3 e)
      have sub : ∀ j e, less t τ₀ j = some e → τ j = some e := fun j e q => bindT_sub (by rw [bindT_less] at hb; exact hb) q
      -- the item is taken up
      have emit : ∀ {g₃ : Zone} {s₃ : Shared}, Step g { s with heap := h₂, toks := tk₂ } g₃ s₃ → At prog w mg mb tab g₃ μ (compEnv20 csc C env) τ s₃ → (W tab call ie τ fun e => e.fz ∧ (ds.drop (i + 1)).foldr (stepL tab call t hc cond ie τ₀) fin (ac ++ [e])) →
          wpAny (model prog w) A (eval elt (compEnv20 csc C env)) (fun x s₄ => wpAny (model prog w) A (PySem.call (.builtin "list.append") [.ref D, x]) (fun _ s₅ => ∃ m, m < ds.length + 1 - i ∧ ∃ i g ac, m = ds.length + 1 - i ∧ i ≤ ds.length ∧ Dyn s₁ g₁ (compEnv20 csc C env) csc M g s₅ ∧ g₂.le g ∧ St i s₅.heap ∧ Acc prog w g D ac s₅.heap ∧ ac.length ≤ B + i ∧
            Vars prog w g μ (compEnv20 csc C env) (less t τ₀) s₅ ∧ (∀ b o, b ≠ I → b ≠ D → Else (compEnv20 csc C env) csc b → s₂.heap.get? b = some o → s₅.heap.get? b = some o) ∧ (ds.drop i).foldr (stepL tab call t hc cond ie τ₀) fin ac) noE s₄) noE s₃ := by
        intro g₃ s₃ t₃ a₃ w₃
        refine (hr _ _ _ he).1.run Rm (comp_fit K F) a₃ w₃ fun g₄ v₄ e₄ s₄ t₄ a₄ r₄ w₄ => ?_
        have t₂₄ := t₃.trans t₄
        have dy₄ := dy₂.on t₂₄
        have V₄ := V₂'.on t₂₄
        have A₄ : Acc prog w g₄ D ac s₄.heap := A₂.keep t₂₄.le fun o e => t₂₄.keep.ext _ o e
        obtain ⟨vs, c, hDo, rvs⟩ := A₄
        have rl := rvs.length
        have hsz : vs.toArray.size ≤ sizeLine := sizeLine_le (by rw [List.size_toArray]; omega)
        refine wpAny_list_append_plain (hsz := hsz) ⟨c, hDo⟩ fun h₅ hl₅ hs₅ => ?_
        · have k₅ : ∀ b o, b ≠ D → s₄.heap.get? b = some o → h₅.get? b = some o := fun b o hb e => hs₅.extBut b o hb e
          have st₄ : St (i + 1) s₄.heap := stf (le.trans t₂₄.le) dy₄ (fun b o _ e => t₂₄.keep.ext b o e) st₂
          obtain ⟨c', hl'⟩ := hl₅
          have ep : vs.toArray.push v₄ = (vs ++ [v₄]).toArray := by simp
          rw [ep] at hl'
          refine ⟨ds.length + 1 - (i + 1), by omega, i + 1, g₄, ac ++ [e₄], rfl, hlt, dy₄.touch (tk := s₄.toks) hD k₅ ⟨_, hl'⟩ eD.1 (fun x c hx hc' e => eD.2 x hx (e ▸ hc')), le.trans t₂₄.le, ?_, ⟨_, _, hl', rvs.append (.one (r₄.frz w₄.1))⟩, ?_, (V₄.sub sub).write (tk := s₄.toks) aD k₅, ?_, w₄.2⟩
          · exact stf (le.trans t₂₄.le) dy₄ (fun b o hb e => k₅ b o (hb.elim (fun q => q ▸ hID) fun q => q.2) e) st₄
          · rw [List.length_append, List.length_singleton]; omega
          · exact fun b o h1 h2 h3 e => k₅ b o h2 (t₂₄.keep.ext _ _ (kept₂ b o h1 h2 h3 e))
      have at₂ := comp_at K F a₁ dy₂ V₂'
      unfold cCond at hcc
      split at hcc
      · cases hcc
        unfold compTest
        refine wpAny_tests_nil ?_
        rw [if_pos rfl]
        exact emit (.refl at₂.gin) at₂ hf
      · simp only [Option.map_eq_some_iff, Prod.mk.injEq] at hcc
        obtain ⟨x, hx, rfl, rfl⟩ := hcc
        unfold compTest
        refine wpAny_tests_one ((hr _ _ _ hx).2.run Rm (comp_fit K F) at₂ hf fun g₃ b s₃ t₃ a₃ hb' => ?_)
        cases b with
        | true =>
          rw [if_pos rfl]
          exact emit t₃ a₃ hb'
        | false =>
          rw [if_neg (by simp)]
          refine ⟨ds.length + 1 - (i + 1), by omega, i + 1, g₃, ac, rfl, hlt, dy₂.on t₃, le.trans t₃.le, stf (le.trans t₃.le) (dy₂.on t₃) (fun b o _ e => t₃.keep.ext b o e) st₂, A₂.keep t₃.le fun o e => t₃.keep.ext _ o e, by omega, (V₂'.on t₃).sub sub, ?_, hb'⟩
          exact fun b o h1 h2 h3 e => t₃.keep.ext _ _ (kept₂ b o h1 h2 h3 e)
      · cases hcc
  · have hin : i = ds.length := by omega
    subst hin
    refine src.done s _ _ st fun h₁ tk₁ k₁ => ?_
    rw [List.drop_length] at hf
    exact hfin g _ ac hf (dy.drop (tk := tk₁) hI k₁ eI.1 (fun x c hx hc' e => eI.2 x hx (e ▸ hc'))) le (hA.keep (Zone.le.refl _) fun o e => k₁ _ o (Ne.symm hID) e) hl (V.write (tk := tk₁) aI k₁)
      fun b o h1 h2 h3 e => k₁ b o h1 (kept b o h1 h2 h3 e)
end
end Cut20
namespace Cut20

theorem fold_of {e : Expr} (h : notSet e = true) (env : Env) (x : Value) : foldedSetIterable e env x = pure x := by
  cases e <;> first | rfl | exact no_tt h
section
variable {prog : Program} {w : World} {mg mb : Str → Option Value} {tab : Str → Option Int} {call : Nat → List PV → Cb → Prop} {k : Nat} {A : Around} {s s₁ s₂ s' : Shared} {g g₁ g' μ : Zone} {env : Env} {sc csc : Scope} {σ τ : Sg} {C I D : Addr} {r : Rec}

/-- a comprehension's frame as it begins -/
structure Begun (prog : Program) (w : World) (A : Around) (env : Env) (csc : Scope) (g₁ μ : Zone) (σ : Sg) (s₁ : Shared) (ds : List PV) (I D C : Addr) (St : Nat → Heap → Prop) (s₂ : Shared) : Prop where
  frm : Frm (compEnv20 csc C env) csc (CM C csc [I, D])
  dyn : Dyn s₁ g₁ (compEnv20 csc C env) csc (CM C csc [I, D]) g₁ s₂
  src : Src prog w A g₁ μ I ds St
  st : St 0 s₂.heap
  ID : I ≠ D
  DC : D ≠ C
  sys : (D == sysModules) = false
  aI : Away (compEnv20 csc C env) I
  aD : Away (compEnv20 csc C env) D
  vars : Vars prog w g₁ μ (compEnv20 csc C env) (restr σ (visOf csc)) s₂

theorem cm_I {more : List Addr} : CM C csc (I :: more) I := .inr (.inr (List.mem_cons_self ..))
theorem cm_D : CM C csc [I, D] D := .inr (.inr (List.mem_cons_of_mem _ (List.mem_cons_self ..)))

theorem begun_of {St : Nat → Heap → Prop} {ds : List PV} {h₂ : Heap} {o : Obj} {tk : Nat} (hf : o.isFreed = false) (K : ScopeOk sc csc) (F : Fit sc env) (a₁ : At prog w mg mb tab g₁ μ env σ s₁) (ext : Ext s₁.heap h₂) (hI : s₁.heap.get? I = none)
    (src : Src prog w A g₁ μ I ds St) (st : St 0 h₂) :
    Begun prog w A env csc g₁ μ σ s₁ ds I h₂.objs.size (h₂.push o).objs.size St
      { s₁ with heap := pushCells ((h₂.push o).push { cls := .type "dict", data := .dict #[] }) csc.names, toks := tk } := by
  have hz : (h₂.push o).objs.size = h₂.objs.size + 1 := Heap.size_push ..
  obtain ⟨oI, hoI⟩ := src.here 0 h₂ st
  have hIlt : I < h₂.objs.size := Heap.lt_size hoI
  have ext₃ : Ext s₁.heap (h₂.push o) := fun b o' e => Heap.get?_push_of_some _ (ext b o' e)
  have hm : ∀ a ∈ [I, h₂.objs.size], s₁.heap.get? a = none ∧ ∃ o', (h₂.push o).get? a = some o' := fun a ha => by
    simp only [List.mem_cons, List.not_mem_nil, or_false] at ha
    rcases ha with rfl | rfl
    · exact ⟨hI, _, Heap.get?_push_of_some _ hoI⟩
    · exact ⟨none_of_keep ext (get?_size _), _, Heap.get?_push_size _ hf⟩
  obtain ⟨ok, dy⟩ := comp_dyn (g₁ := g₁) (env := env) (tk := tk) K a₁.gin ext₃ hm
  have old : ∀ x c, (env.kindOf x = some .cell ∨ env.kindOf x = some .free) → env.cells.lookup x = some c → c < h₂.objs.size := fun x c hx hc => by
    obtain ⟨u, o', ho, _⟩ := a₁.cel x c hx hc
    exact Heap.lt_size (ext _ _ ho)
  have away : ∀ a, a < (h₂.push o).objs.size → s₁.heap.get? a = none → Away (compEnv20 csc (h₂.push o).objs.size env) a := fun a hlt hn => ⟨Nat.ne_of_lt hlt, fun x c hx hc => by
    rcases comp_cellish K hx with h | h
    · obtain ⟨c', e, m⟩ := comp_own (C := (h₂.push o).objs.size) (env := env) K h
      rw [hc] at e; cases e
      exact Nat.ne_of_gt (Nat.lt_trans hlt (ok.empty _ _ m).2)
    · have kk := outer_cellish K F h
      obtain ⟨c', hc'⟩ := F.hasCell x kk
      have e := comp_free (C := (h₂.push o).objs.size) K h hc'
      rw [hc] at e; cases e
      obtain ⟨u, o', ho, _⟩ := a₁.cel x c kk hc'
      exact fun q => by rw [← q, ho] at hn; cases hn⟩
  have k₂ : ∀ b o', h₂.get? b = some o' → (pushCells ((h₂.push o).push { cls := .type "dict", data := .dict #[] }) csc.names).get? b = some o' := fun b o' e => pushCells_keeps _ _ _ _ (Heap.get?_push_of_some _ (Heap.get?_push_of_some _ e))
  refine ⟨comp_frm K F ok fun x c hx hc => ?_, dy, src, src.frame _ _ _ st fun b o' _ e => k₂ b o' e, Nat.ne_of_lt hIlt, ?_, ?_, away I ?_ hI, away _ ?_ (none_of_keep ext (get?_size _)), ?_⟩
  · rw [hz]; exact Nat.lt_succ_of_lt (old x c hx hc)
  · rw [hz]; exact Nat.ne_of_lt (Nat.lt_succ_self _)
  · obtain ⟨mc, ⟨o', _, _, e, _⟩, _⟩ := a₁.stat.digits
    have h2 : cStatics < h₂.objs.size := Heap.lt_size (ext _ _ e)
    have h3 : sysModules < cStatics := by decide
    exact beq_eq_false_iff_ne.mpr (Nat.ne_of_gt (Nat.lt_trans h3 h2))
  · rw [hz]; exact Nat.lt_succ_of_lt hIlt
  · rw [hz]; exact Nat.lt_succ_self _
  · have V₁ : Vars prog w g₁ μ env σ s₁ := a₁.var
    exact comp_vars K F (V₁.on (s' := { s₁ with heap := pushCells ((h₂.push o).push { cls := .type "dict", data := .dict #[] }) csc.names, toks := tk }) (Step.of (s' := { s₁ with heap := pushCells ((h₂.push o).push { cls := .type "dict", data := .dict #[] }) csc.names, toks := tk }) a₁.gin ⟨_, tk, rfl, fun b o' e => k₂ b o' (ext b o' e)⟩))

theorem free_args (K : ScopeOk sc csc) (F : Fit sc env) : closureFor csc env = pure (clos env csc.names []) := by
  refine closureFor_ok fun p hp hk => F.hasCell p.1 ?_
  refine outer_cellish K F (x := p.1) ?_
  rw [K.names p hp, hk]

/-- a list comprehension, up to its loop -/
theorem lcomp_begin {elt te iter : Expr} {ifs : List Expr} {more : List Comprehension} {pos p : Pos} {ii : IE} {P : PV → Prop} {use : Option (Value → Sem Unit)} {Q : Value → Shared → Prop}
    (hr : SndR prog w mg mb tab call k r) (Rm : Room k A) (K : ScopeOk sc csc) (F : Fit sc env) (a : At prog w mg mb tab g μ env σ s) (hs : notSet iter = true) (hi : r sc iter = some ii) (hw : W tab call ii σ P)
    (body : ∀ g₁ s₁ d, At prog w mg mb tab g₁ μ env σ s₁ → Step g s g₁ s₁ → P d → ∃ ds, d.items = some ds ∧ ∀ I D C St s₂, Begun prog w A env csc g₁ μ σ s₁ ds I D C St s₂ → Acc prog w g₁ D [] s₂.heap →
      codeAny (model prog w) A (.compLoop (.ListComp elt (⟨te, iter, ifs, 0⟩ :: more) csc pos) 0 (.ref I) (.ref D) (compEnv20 csc C env)) (compPost (model prog w) A noE use Q (.ref D) C) s₂) :
    wpAny (model prog w) A (comprehension (.ListComp elt (⟨te, iter, ifs, 0⟩ :: more) csc pos) csc env p (newList []) false (eval iter env) use) Q noE s := by
  refine wpAny_comprehension_free (g := ⟨te, iter, ifs, 0⟩) (gs := more) rfl (fold_of hs env) (free_args K F) K.kind (fun x hx hk => by rw [K.names x hx, hk]) ?_
  refine (hr _ _ _ hi).1.run Rm F a hw fun g₁ v d s₁ st₁ a₁ rv hp => ?_
  obtain ⟨ds, hds, hb⟩ := body g₁ s₁ d a₁ st₁ hp
  refine iter_ok Rm.handled a₁.gin a₁.min rv hds fun I St h₂ ext hI src st => ?_
  refine wpAny_newList ?_ (Nat.zero_le _)
  refine new_env ?_
  have hb' := hb I _ _ St _ (begun_of (o := { cls := .type "list", data := .seq #[] }) (tk := s₁.toks) rfl K F a₁ ext hI src st) ⟨[], 0, pushCells_keeps _ _ _ _ (Heap.get?_push_of_some _ (Heap.get?_push_size _ rfl)), .nil⟩
  refine list_start (t := te) (i := iter) (ifs := ifs) rfl (fun it' e => ?_) fun Q' hQ => ?_
  · subst e; exact hb'
  · exact src.self 0 _ _ _ (src.frame _ _ _ st fun b o' _ e => pushCells_keeps _ _ _ _ (Heap.get?_push_of_some _ (Heap.get?_push_of_some _ e))) hQ

/-- the end of a list comprehension: its list goes into the zone -/
theorem lcomp_end {M : Addr → Prop} {ac : List PV} (dy : Dyn s₁ g₁ (compEnv20 csc C env) csc M g' s') (hD : M D) (hC : M C) (hDC : D ≠ C) (hA : Acc prog w g' D ac s'.heap) :
    ∃ g'' o, g''  = g'.add D o ∧ (∀ h', Heap.SameBut C s'.heap h' → Step g₁ s₁ g'' { s' with heap := h' }) ∧ Step g₁ s₁ g'' s' ∧ Rep prog w g'' (.ref D) (.list ac) ∧ g'' C = none := by
  obtain ⟨vs, n, ho, rv⟩ := hA
  have hout := dy.out D hD
  have le : g'.le (g'.add D ({ cls := .type "list", data := .seq vs.toArray n } : Obj)) := Zone.le_add hout
  have fr : ∀ a o, g'.add D ({ cls := .type "list", data := .seq vs.toArray n } : Obj) a = some o → g₁ a = some o ∨ s₁.heap.get? a = none := fun a o e => by
    unfold Zone.add at e
    by_cases q : a = D
    · exact .inr (q ▸ dy.new D hD)
    · rw [if_neg q] at e; exact dy.step.fresh a o e
  have gin : (g'.add D ({ cls := .type "list", data := .seq vs.toArray n } : Obj)).In s'.heap := fun a o e => by
    unfold Zone.add at e
    by_cases q : a = D
    · rw [if_pos q] at e; cases e; rw [q]; exact ho
    · rw [if_neg q] at e; exact dy.step.gin a o e
  have cn : g'.add D ({ cls := .type "list", data := .seq vs.toArray n } : Obj) C = none := by
    unfold Zone.add; rw [if_neg (Ne.symm hDC)]; exact dy.out C hC
  refine ⟨_, _, rfl, fun h' hs => ⟨dy.step.le.trans le, fr, fun a o e => hs.extBut a o (fun q => by rw [q, cn] at e; cases e) (gin a o e), ?_⟩, ⟨dy.step.le.trans le, fr, gin, dy.step.keep⟩, .list Zone.add_self (rv.up le), cn⟩
  obtain ⟨h₁, t₁, rfl, e₁⟩ := dy.step.keep.is
  exact ⟨h', t₁, rfl, fun b o e => hs.extBut b o (fun q => by rw [q, dy.new C hC] at e; cases e) (e₁ b o e)⟩
end
end Cut20
namespace Cut20

section
variable {prog : Program} {w : World} {mg mb : Str → Option Value} {tab : Str → Option Int} {call : Nat → List PV → Cb → Prop} {k : Nat} {A : Around} {s s₁ s₂ s' : Shared} {g g₁ g' μ : Zone} {env : Env} {sc csc : Scope} {σ τ : Sg} {C I D : Addr} {r : Rec}

/-- what is asked of the end of a comprehension -/
noncomputable def CEnd (prog : Program) (w : World) (A : Around) (g : Zone) (s : Shared) (P : Cb) (use : Option (Value → Sem Unit)) (Q : Value → Shared → Prop) : Prop :=
  ∀ g'' v d s' C, Step g s g'' s' → Rep prog w g'' v d → P d → g'' C = none → s.heap.get? C = none → (∃ m, s'.heap.Ns C m) → (∀ h', Heap.SameBut C s'.heap h' → Step g s g'' { s' with heap := h' }) → compPost (model prog w) A noE use Q v C (.ok .next) s'
theorem cend_value {P : Cb} : CEnd prog w A g s P none (Post prog w g μ s P) :=
  fun g'' v d s' C st rv hp hc hn hm hs => let ⟨m, hm⟩ := hm; ⟨m, hm, fun h' k => ⟨g'', d, hs h' k, .fr rv, hp⟩⟩

theorem comp1_run {elt te it : Expr} {ifs : List Expr} {pos p : Pos} {ie : IE} {P : Cb} {use : Option (Value → Sem Unit)} {Q : Value → Shared → Prop}
    (hr : SndR prog w mg mb tab call k r) (Rm : Room k A) (F : Fit sc env) (a : At prog w mg mb tab g μ env σ s) (h : cLC r sc elt [⟨te, it, ifs, 0⟩] csc = some ie) (hw : W tab call ie σ P) (hE : CEnd prog w A g s P use Q) :
    wpAny (model prog w) A (comprehension (.ListComp elt [⟨te, it, ifs, 0⟩] csc pos) csc env p (newList []) false (eval it env) use) Q noE s := by
  unfold cLC at h
  split at h
  · cases h
  · rename_i hsc
    have K := scopeOk_of (by simpa using hsc)
    simp only at h
    split at h
    · cases h
    · rename_i hns
      have hns' : notSet it = true := by simpa using hns
      simp only [Option.bind_eq_bind, Option.bind_eq_some_iff, Option.some.injEq] at h
      obtain ⟨t, ht, ii, hi, ⟨hc, cond⟩, hcc, x, hx, rfl⟩ := h
      refine lcomp_begin hr Rm K F a hns' hi hw fun g₁ s₁ d a₁ st₁ hd => ?_
      dsimp only at hd
      cases hds : d.items with
      | none => rw [hds] at hd; exact hd.elim
      | some ds =>
        rw [hds] at hd
        obtain ⟨hlen, hf⟩ := hd
        refine ⟨ds, rfl, fun I D C St s₂ b hac => ?_⟩
        refine list_body (B := 0) (fin := fun acc => P (.list acc)) hr Rm K F b.frm a₁ (list1_eq ..) ht hcc hx b.src cm_I cm_D b.ID b.aI b.aD (by omega) b.dyn b.st (b.vars.sub fun i e q => ?_) hac (Nat.zero_le _) (τ₀ := restr σ (visOf csc)) hf ?_
        · unfold less at q; split at q
          · cases q
          · exact q
        · intro g s' ac hp dy le hA _ V kept
          have hCI : C ≠ I := Ne.symm b.aI.1
          obtain ⟨g'', o, _, e1, e2, e3, e4⟩ := lcomp_end (D := D) dy ⟨cm_D, Ne.symm b.ID⟩ ⟨.inl rfl, hCI⟩ b.DC hA
          exact hE g'' _ _ s' C (st₁.trans e2) e3 hp e4 (none_of_keep st₁.keep.ext (b.dyn.new C (.inl rfl))) dy.ns fun h' k' => st₁.trans (e1 h' k')

theorem Dyn.more {s₀ : Shared} {g₀ : Zone} {M : Addr → Prop} {b : Addr} (d : Dyn s₀ g₀ env sc M g s) (hn : s₀.heap.get? b = none) (hg : g b = none) (hh : ∃ o, s.heap.get? b = some o) : Dyn s₀ g₀ env sc (fun a => M a ∨ a = b) g s :=
  ⟨d.step, fun a ha => ha.elim (d.new a) fun q => q ▸ hn, fun a ha => ha.elim (d.out a) fun q => q ▸ hg, fun a ha => ha.elim (d.here a) fun q => q ▸ hh, d.ns, d.cel⟩
theorem Frm.more {M M' : Addr → Prop} (f : Frm env sc M) (h : ∀ a, M a → M' a) : Frm env sc M' := ⟨f.fit, h _ f.L, fun x c a b => h _ (f.own x c a b), f.apart, f.inj⟩
theorem tids_own {te : Expr} {t : Tgt} (K : ScopeOk sc csc) (ht : cTgt (ownName csc) te = some t) {i : Nat} (hi : (tids t).contains i = true) : (visOf csc).contains i = false := by
  have key : ∀ x, ownName csc x = true → ∀ j, vid x = some j → (visOf csc).contains j = false := by
    intro x hx j hj
    cases q : (visOf csc).contains j with
    | false => rfl
    | true =>
      have hm : j ∈ visOf csc := by simpa using q
      unfold visOf at hm
      rw [List.mem_filterMap] at hm
      obtain ⟨p, hp, hpe⟩ := hm
      split at hpe
      · rename_i hk
        have hfr : p.2 = .free := by simpa using hk
        obtain rfl := vid_inj hj hpe
        have := K.names p hp
        rcases own_of hx with h | h <;> (rw [this, hfr] at h; cases h)
      · cases hpe
  rcases cTgt_of ht with ⟨x, p, j, rfl, hx, hj, rfl⟩ | ⟨x, px, y, py, k, pp, j, m, rfl, hx, hy, hxy, hj, hm, rfl⟩
  · have : i = j := by simpa [tids] using hi
    subst this
    exact key _ hx _ hj
  · have : i = j ∨ i = m := by simpa [tids] using hi
    rcases this with rfl | rfl
    · exact key _ hx _ hj
    · exact key _ hy _ hm
theorem away_new {b : Addr} (K : ScopeOk sc csc) (F : Fit sc env) {M : Addr → Prop} (a₁ : At prog w mg mb tab g₁ μ env σ s₁) (dy : Dyn s₁ g₁ (compEnv20 csc C env) csc M g s) (hn : s.heap.get? b = none) : Away (compEnv20 csc C env) b := by
  refine ⟨?_, fun x c hx hc => ?_⟩
  · intro q
    obtain ⟨m, o, _, _, e, _⟩ := dy.ns
    rw [← q, hn] at e; cases e
  · intro q
    obtain ⟨u, o, e, _⟩ := (comp_at (τ := fun _ => none) K F a₁ dy fun _ _ _ _ q => by cases q).cel x _ hx hc
    rw [q, hn] at e; cases e

theorem comp2_run {elt te it te2 it2 : Expr} {ifs : List Expr} {pos p : Pos} {ie : IE} {P : Cb} {use : Option (Value → Sem Unit)} {Q : Value → Shared → Prop}
    (hr : SndR prog w mg mb tab call k r) (Rm : Room k A) (F : Fit sc env) (a : At prog w mg mb tab g μ env σ s) (h : cLC r sc elt [⟨te, it, [], 0⟩, ⟨te2, it2, ifs, 0⟩] csc = some ie) (hw : W tab call ie σ P) (hE : CEnd prog w A g s P use Q) :
    wpAny (model prog w) A (comprehension (.ListComp elt [⟨te, it, [], 0⟩, ⟨te2, it2, ifs, 0⟩] csc pos) csc env p (newList []) false (eval it env) use) Q noE s := by
  unfold cLC at h
  split at h
  · cases h
  · rename_i hsc
    have K := scopeOk_of (by simpa using hsc)
    simp only at h
    split at h
    · cases h
    · rename_i hns
      have hns' : notSet it = true ∧ notSet it2 = true := by simpa using hns
      simp only [Option.bind_eq_bind, Option.bind_eq_some_iff, Option.some.injEq] at h
      obtain ⟨t, ht, ii, hi, t2, ht2, ii2, hi2, ⟨hc, cond⟩, hcc, x, hx, rfl⟩ := h
      refine lcomp_begin hr Rm K F a hns'.1 hi hw fun g₁ s₁ d a₁ st₁ hd => ?_
      dsimp only at hd
      cases hds : d.items with
      | none => rw [hds] at hd; exact hd.elim
      | some ds =>
        rw [hds] at hd
        obtain ⟨hlen, hf⟩ := hd
        refine ⟨ds, rfl, fun I D C St s₂ b hac => ?_⟩
        have eI := b.aI.else (comp_fit (C := C) K F)
        have eD := b.aD.else (comp_fit (C := C) K F)
        have hCI : C ≠ I := Ne.symm b.aI.1
        let step2 : PV → (List PV → Prop) → List PV → Prop := fun d K acc => match bindT t d (restr σ (visOf csc)) with
          | some τ => W tab call ii2 τ fun x2 => match x2.items with
            | some ds2 => ds2.length < 1000 ∧ ds2.foldr (stepL tab call t2 hc cond x τ) K acc
            | Option.none => False
          | Option.none => False
        have hf' : ds.foldr step2 (fun acc => P (.list acc)) [] := hf
        clear hf
        refine out_loop (fold_of hns'.2 _) (list2_out ..) (fun n s => ∃ i g ac, n = ds.length + 1 - i ∧ i ≤ ds.length ∧ Dyn s₁ g₁ (compEnv20 csc C env) csc (CM C csc [I, D]) g s ∧ g₁.le g ∧ St i s.heap ∧ Acc prog w g D ac s.heap ∧ ac.length ≤ i * 1000 ∧
            Vars prog w g μ (compEnv20 csc C env) (less t (restr σ (visOf csc))) s ∧ (ds.drop i).foldr step2 (fun acc => P (.list acc)) ac) ?_ (ds.length + 1)
          ⟨0, g₁, [], rfl, Nat.zero_le _, b.dyn, Zone.le.refl _, b.st, hac, Nat.zero_le _, b.vars.sub fun i e q => by
            unfold less at q
            split at q
            · cases q
            · exact q, by simpa using hf'⟩
        rintro n s₃ ⟨i, g₃, ac, rfl, hi', dy, le, st, hA, hl, V, hf⟩
        rcases Nat.lt_or_ge i ds.length with hlt | hge
        · rw [List.drop_eq_getElem_cons hlt, List.foldr_cons] at hf
          cases hb : bindT t ds[i] (restr σ (visOf csc)) with
          | none =>
            have hf2 : (match bindT t ds[i] (restr σ (visOf csc)) with
              | some τ => W tab call ii2 τ fun x2 => match x2.items with
                | some ds2 => ds2.length < 1000 ∧ ds2.foldr (stepL tab call t2 hc cond x τ) ((ds.drop (i + 1)).foldr step2 (fun acc => P (.list acc))) ac
                | Option.none => False
              | Option.none => False) := hf
            rw [hb] at hf2; exact hf2.elim
          | some τ =>
            have hf2 : (match bindT t ds[i] (restr σ (visOf csc)) with
              | some τ => W tab call ii2 τ fun x2 => match x2.items with
                | some ds2 => ds2.length < 1000 ∧ ds2.foldr (stepL tab call t2 hc cond x τ) ((ds.drop (i + 1)).foldr step2 (fun acc => P (.list acc))) ac
                | Option.none => False
              | Option.none => False) := hf
            rw [hb] at hf2
            dsimp only at hf2
            refine b.src.item i s₃ _ _ hlt st fun v d h₁ tk₁ hd rd st₁' k₁ => ?_
            rw [List.getElem?_eq_getElem hlt] at hd
            cases hd
            have dy₁ := dy.touch (tk := tk₁) cm_I k₁ (b.src.here _ _ st₁') eI.1 (fun x c hx hc' e => eI.2 x hx (e ▸ hc'))
            have V₁ := V.write (tk := tk₁) b.aI k₁
            have A₁ : Acc prog w g₃ D ac h₁ := hA.keep (Zone.le.refl _) fun o e => k₁ _ o (Ne.symm b.ID) e
            refine b.src.go _ _ _ _ _ _ st₁' ?_
            rw [← bindT_less] at hb
            have stf : ∀ {j : Nat} {h h' : Heap} {g₃ : Zone} {s₃ : Shared} {M : Addr → Prop}, Dyn s₁ g₁ (compEnv20 csc C env) csc M g₃ s₃ → (∀ a, CM C csc [I, D] a → a ≠ I → M a) → (∀ b o, b = I ∨ (Else (compEnv20 csc C env) csc b ∧ b ≠ D ∧ ∃ o, s₁.heap.get? b = some o) → h.get? b = some o → h'.get? b = some o) → St j h → St j h' := by
              intro j h h' g₃ s₃ M d₃ hM hk sj
              refine b.src.frame j h h' sj fun b' o hb e => hk b' o ?_ e
              have fin : (∃ o, s₁.heap.get? b' = some o) → b' = I ∨ (Else (compEnv20 csc C env) csc b' ∧ b' ≠ D ∧ ∃ o, s₁.heap.get? b' = some o) := fun ⟨o', ho⟩ => by
                by_cases nI : b' = I
                · exact .inl nI
                · have ne : ∀ a, M a → b' ≠ a := fun a ha q => by have := d₃.new a ha; rw [← q, ho] at this; cases this
                  exact .inr ⟨⟨ne _ (hM _ b.frm.L hCI), fun y hy q => ne _ (hM _ (b.frm.own y _ hy q) (fun e => b.aI.2 y b' (.inl (b.frm.fit.cel y hy)) q e)) rfl⟩, ne _ (hM _ cm_D (Ne.symm b.ID)), o', ho⟩
              rcases hb with rfl | ⟨o', hb⟩ | ⟨o', hb⟩
              · exact .inl rfl
              · exact fin ⟨_, a₁.gin _ _ hb⟩
              · exact fin ⟨_, a₁.min _ _ hb⟩
            refine bind_ok Rm.handled b.frm dy₁ V₁ ht (rd.up le) hb fun h₂ tk₂ dy₂ V₂' k₂ => ?_
            have st₂ : St (i + 1) h₂ := stf dy₂ (fun a ha _ => ha) (fun b' o hb' e => k₂ b' o (hb'.elim (fun q => q ▸ eI) fun q => q.1) e) st₁'
            have A₂ : Acc prog w g₃ D ac h₂ := A₁.keep (Zone.le.refl _) fun o e => k₂ _ o eD e
            have sub : ∀ j e, less t (restr σ (visOf csc)) j = some e → τ j = some e := fun j e q => bindT_sub (by rw [bindT_less] at hb; exact hb) q
            have at₂ := comp_at K F a₁ dy₂ V₂'
            refine (hr _ _ _ hi2).1.run Rm (comp_fit K F) at₂ hf2 fun g₄ v₄ e₄ s₄ t₄ a₄ r₄ w₄ => ?_
            cases hds2 : e₄.items with
            | none => rw [hds2] at w₄; exact w₄.elim
            | some ds2 =>
              rw [hds2] at w₄
              obtain ⟨hlen2, hf4⟩ := w₄
              have dy₄ := dy₂.on t₄
              have A₄ : Acc prog w g₄ D ac s₄.heap := A₂.keep t₄.le fun o e => t₄.keep.ext _ o e
              refine iter_ok Rm.handled a₄.gin a₄.min r₄ hds2 fun I2 St2 h₅ ext₅ hI2 src2 st2 => ?_
              have t₅ : Step g₄ s₄ g₄ { s₄ with heap := h₅ } := .of a₄.gin ⟨h₅, s₄.toks, rfl, ext₅⟩
              have dy₅ := (dy₄.on t₅).more (none_of_keep dy₄.step.keep.ext hI2) (Zone.none_of a₄.gin hI2) (src2.here _ _ st2)
              have aI2 := away_new K F a₁ dy₄ hI2
              have aD2 : Away (compEnv20 csc C env) D := b.aD
              have hI2D : I2 ≠ D := by
                rintro rfl
                obtain ⟨vs, n, ho, _⟩ := A₄
                rw [hI2] at ho; cases ho
              have A₅ : Acc prog w g₄ D ac h₅ := A₄.keep (Zone.le.refl _) fun o e => ext₅ _ o e
              have V₅ := (V₂'.on t₄).on t₅
              have ne2 : ∀ a, CM C csc [I, D] a → a ≠ I2 := fun a ha q => by
                obtain ⟨o, e⟩ := dy₄.here a ha
                rw [q, hI2] at e; cases e
              refine list_start (t := te2) (i := it2) (ifs := ifs) rfl (fun it' e => ?_) fun Q' hQ => src2.self 0 _ _ _ st2 hQ
              subst e
              refine list_body (B := i * 1000) (M := fun a => CM C csc [I, D] a ∨ a = I2) (fin := (ds.drop (i + 1)).foldr step2 fun acc => P (.list acc)) hr Rm K F (b.frm.more fun _ => .inl) a₁ (list2_in ..) ht2 hcc hx src2 (.inr rfl) (.inl cm_D) hI2D aI2 b.aD (by omega) dy₅ st2
                (V₅.sub fun j e q => ?_) A₅ hl (τ₀ := τ) hf4 ?_
              · unfold less at q; split at q
                · cases q
                · exact q
              · intro g₆ s₆ ac' hp dy₆ le₆ hA₆ hl₆ V₆ kept₆
                refine ⟨rfl, ds.length + 1 - (i + 1), by omega, i + 1, g₆, ac', rfl, hlt, dy₆.subM fun a ha => ⟨.inl ha, ne2 a ha⟩, (le.trans t₄.le).trans le₆, ?_, hA₆, by omega, V₆.sub fun j e q => ?_, hp⟩
                · have st₅ : St (i + 1) h₅ := stf (dy₄.on t₅) (fun a ha _ => ha) (fun b' o hb' e => ext₅ _ _ (t₄.keep.ext _ _ e)) st₂
                  refine stf dy₆ (fun a ha _ => ⟨.inl ha, ne2 a ha⟩) (fun b' o hb' e => ?_) st₅
                  have hb2 : b' ≠ I2 := by
                    intro q
                    rcases hb' with h | ⟨_, _, o', h⟩
                    · exact ne2 I cm_I (h.symm.trans q)
                    · have := dy₄.step.keep.ext _ _ h
                      rw [q, hI2] at this; cases this
                  refine kept₆ b' o hb2 ?_ ?_ e
                  · exact hb'.elim (fun q => q ▸ b.ID) fun q => q.2.1
                  · exact hb'.elim (fun q => q ▸ eI) fun q => q.1
                · have hj : τ j = some e := sub j e q
                  unfold less
                  split
                  · rename_i hc2
                    have := tids_own K ht2 hc2
                    unfold less at q
                    split at q
                    · cases q
                    · unfold restr at q
                      rw [this] at q
                      simp at q
                  · exact hj
        · have hin : i = ds.length := by omega
          subst hin
          refine b.src.done s₃ _ _ st fun h₁ tk₁ k₁ => ?_
          rw [List.drop_length] at hf
          have dy₁ := dy.drop (tk := tk₁) cm_I k₁ eI.1 (fun x c hx hc' e => eI.2 x hx (e ▸ hc'))
          obtain ⟨g'', o, _, e1, e2, e3, e4⟩ := lcomp_end (D := D) dy₁ ⟨cm_D, Ne.symm b.ID⟩ ⟨.inl rfl, hCI⟩ b.DC (hA.keep (Zone.le.refl _) fun o e => k₁ _ o (Ne.symm b.ID) e)
          exact hE g'' _ _ _ C (st₁.trans e2) e3 hf e4 (none_of_keep st₁.keep.ext (b.dyn.new C (.inl rfl))) dy₁.ns fun h' k' => st₁.trans (e1 h' k')
end
end Cut20
namespace Cut20

section
variable {prog : Program} {w : World} {mg mb : Str → Option Value} {tab : Str → Option Int} {call : Nat → List PV → Cb → Prop} {k : Nat} {A : Around} {s s₁ s₂ s' : Shared} {g g₁ g' μ : Zone} {env : Env} {sc csc : Scope} {σ τ : Sg} {C I D : Addr} {r : Rec}

/-- the dict that is filled -/
noncomputable def AccD (prog : Program) (w : World) (g : Zone) (D : Addr) (ac : List (Int × PV)) (h : Heap) : Prop :=
  ∃ kvs, h.DictOf (intKind prog w) D kvs ∧ (kvs : List (Int × Value)).map (·.1) = ac.map (·.1) ∧ RepAll prog w g (kvs.map (·.2)) (ac.map (·.2))
theorem AccD.keep {ac : List (Int × PV)} {h h' : Heap} (x : AccD prog w g D ac h) (hl : g.le g') (hk : ∀ o, h.get? D = some o → h'.get? D = some o) : AccD prog w g' D ac h' :=
  let ⟨kvs, a, b, c⟩ := x; ⟨kvs, a.at hk, b, c.up hl⟩
theorem AccD.here {ac : List (Int × PV)} {h : Heap} (x : AccD prog w g D ac h) : ∃ o, h.get? D = some o := let ⟨_, ⟨o, _, _, e, _⟩, _⟩ := x; ⟨o, e⟩
noncomputable def stepD (tab : Str → Option Int) (call : Nat → List PV → Cb → Prop) (t : Tgt) (kx vx : IE) (τ₀ : Sg) (d : PV) (K : List (Int × PV) → Prop) (acc : List (Int × PV)) : Prop :=
  match bindT t d τ₀ with
  | some τ => W tab call kx τ fun kd => W tab call vx τ fun vd => match kd with
    | .int i => vd.fz ∧ (∀ p ∈ acc, p.1 ≠ i) ∧ K (acc ++ [(i, vd)])
    | _ => False
  | Option.none => False
theorem stepD_some {t : Tgt} {kx vx : IE} {τ₀ τ : Sg} {d : PV} {K : List (Int × PV) → Prop} {acc : List (Int × PV)} (h : bindT t d τ₀ = some τ) :
    stepD tab call t kx vx τ₀ d K acc = W tab call kx τ fun kd => W tab call vx τ fun vd => match kd with
      | .int i => vd.fz ∧ (∀ p ∈ acc, p.1 ≠ i) ∧ K (acc ++ [(i, vd)])
      | _ => False := by unfold stepD; rw [h]
theorem stepD_none {t : Tgt} {kx vx : IE} {τ₀ : Sg} {d : PV} {K : List (Int × PV) → Prop} {acc : List (Int × PV)} (h : bindT t d τ₀ = none) : stepD tab call t kx vx τ₀ d K acc = False := by unfold stepD; rw [h]

theorem stored_new {kvs : List (Int × Value)} {i : Int} {v : Value} (h : ∀ p ∈ kvs, p.1 ≠ i) : stored kvs i v = kvs ++ [(i, v)] := by
  unfold stored
  rw [if_neg]
  simp only [List.any_eq_true, decide_eq_true_eq, not_exists, not_and]
  exact fun p hp => h p hp

theorem dcomp_begin {kx vx te iter : Expr} {ifs : List Expr} {more : List Comprehension} {pos p : Pos} {ii : IE} {P : PV → Prop} {use : Option (Value → Sem Unit)} {Q : Value → Shared → Prop}
    (hr : SndR prog w mg mb tab call k r) (Rm : Room k A) (K : ScopeOk sc csc) (F : Fit sc env) (a : At prog w mg mb tab g μ env σ s) (hs : notSet iter = true) (hi : r sc iter = some ii) (hw : W tab call ii σ P)
    (body : ∀ g₁ s₁ d, At prog w mg mb tab g₁ μ env σ s₁ → Step g s g₁ s₁ → P d → ∃ ds, d.items = some ds ∧ ∀ I D C St s₂, Begun prog w A env csc g₁ μ σ s₁ ds I D C St s₂ → AccD prog w g₁ D [] s₂.heap →
      codeAny (model prog w) A (.compLoop (.DictComp kx vx (⟨te, iter, ifs, 0⟩ :: more) csc pos) 0 (.ref I) (.ref D) (compEnv20 csc C env)) (compPost (model prog w) A noE use Q (.ref D) C) s₂) :
    wpAny (model prog w) A (comprehension (.DictComp kx vx (⟨te, iter, ifs, 0⟩ :: more) csc pos) csc env p newDict false (eval iter env) use) Q noE s := by
  refine wpAny_comprehension_free (g := ⟨te, iter, ifs, 0⟩) (gs := more) rfl (fold_of hs env) (free_args K F) K.kind (fun x hx hk => by rw [K.names x hx, hk]) ?_
  refine (hr _ _ _ hi).1.run Rm F a hw fun g₁ v d s₁ st₁ a₁ rv hp => ?_
  obtain ⟨ds, hds, hb⟩ := body g₁ s₁ d a₁ st₁ hp
  refine iter_ok Rm.handled a₁.gin a₁.min rv hds fun I St h₂ ext hI src st => ?_
  refine wpAny_newObj_type ?_
  refine new_env ?_
  have hb' := hb I _ _ St _ (begun_of (o := { cls := .type "dict", data := .dict #[] }) (tk := s₁.toks) rfl K F a₁ ext hI src st)
    ⟨[], (Heap.DictOf.new (knd := intKind prog w) h₂).at fun o e => pushCells_keeps _ _ _ _ (Heap.get?_push_of_some _ e), rfl, .nil⟩
  refine dict_start (t := te) (i := iter) (ifs := ifs) rfl (fun it' e => ?_) fun Q' hQ => ?_
  · subst e; exact hb'
  · exact src.self 0 _ _ _ (src.frame _ _ _ st fun b o' _ e => pushCells_keeps _ _ _ _ (Heap.get?_push_of_some _ (Heap.get?_push_of_some _ e))) hQ

theorem zip_pair {α β : Type} : ∀ l : List (α × β), (l.map (·.1)).zip (l.map (·.2)) = l
  | [] => rfl
  | p :: l => by rw [List.map_cons, List.map_cons, List.zip_cons_cons, zip_pair l]
theorem dcomp_end {M : Addr → Prop} {ac : List (Int × PV)} (dy : Dyn s₁ g₁ (compEnv20 csc C env) csc M g' s') (hsys : (D == sysModules) = false) (hD : M D) (hC : M C) (hDC : D ≠ C) (hA : AccD prog w g' D ac s'.heap) :
    ∃ g'' o, g''  = g'.add D o ∧ (∀ h', Heap.SameBut C s'.heap h' → Step g₁ s₁ g'' { s' with heap := h' }) ∧ Step g₁ s₁ g'' s' ∧ Rep prog w g'' (.ref D) (.dict ac) ∧ g'' C = none := by
  obtain ⟨kvs, hd, hk, rv⟩ := hA
  obtain ⟨ob, es, ep, ho, rest⟩ := hd
  have hout := dy.out D hD
  have le : g'.le (g'.add D ob) := Zone.le_add hout
  have fr : ∀ a o, g'.add D ob a = some o → g₁ a = some o ∨ s₁.heap.get? a = none := fun a o e => by
    unfold Zone.add at e
    by_cases q : a = D
    · exact .inr (q ▸ dy.new D hD)
    · rw [if_neg q] at e; exact dy.step.fresh a o e
  have gin : (g'.add D ob).In s'.heap := fun a o e => by
    unfold Zone.add at e
    by_cases q : a = D
    · rw [if_pos q] at e; cases e; rw [q]; exact ho
    · rw [if_neg q] at e; exact dy.step.gin a o e
  have cn : g'.add D ob C = none := by
    unfold Zone.add; rw [if_neg (Ne.symm hDC)]; exact dy.out C hC
  have hrep : Rep prog w (g'.add D ob) (.ref D) (.dict ((kvs.map (·.1)).zip (ac.map (·.2)))) := .dict hsys Zone.add_self (fun h e => ⟨ob, es, ep, e, rest⟩) (rv.up le)
  rw [hk, zip_pair] at hrep
  refine ⟨_, _, rfl, fun h' hs => ⟨dy.step.le.trans le, fr, fun a o e => hs.extBut a o (fun q => by rw [q, cn] at e; cases e) (gin a o e), ?_⟩, ⟨dy.step.le.trans le, fr, gin, dy.step.keep⟩, hrep, cn⟩
  obtain ⟨h₁, t₁, rfl, e₁⟩ := dy.step.keep.is
  exact ⟨h', t₁, rfl, fun b o e => hs.extBut b o (fun q => by rw [q, dy.new C hC] at e; cases e) (e₁ b o e)⟩

theorem dcomp_run {kx vx te it : Expr} {pos p : Pos} {ie : IE} {P : Cb} {use : Option (Value → Sem Unit)} {Q : Value → Shared → Prop}
    (hr : SndR prog w mg mb tab call k r) (Rm : Room k A) (F : Fit sc env) (a : At prog w mg mb tab g μ env σ s) (h : cDC r sc kx vx [⟨te, it, [], 0⟩] csc = some ie) (hw : W tab call ie σ P) (hE : CEnd prog w A g s P use Q) :
    wpAny (model prog w) A (comprehension (.DictComp kx vx [⟨te, it, [], 0⟩] csc pos) csc env p newDict false (eval it env) use) Q noE s := by
  unfold cDC at h
  split at h
  · cases h
  · rename_i hsc
    have K := scopeOk_of (by simpa using hsc)
    simp only at h
    split at h
    · cases h
    · rename_i hns
      have hns' : notSet it = true := by simpa using hns
      simp only [Option.bind_eq_bind, Option.bind_eq_some_iff, Option.some.injEq] at h
      obtain ⟨t, ht, ii, hi, ik, hk, iv, hv, rfl⟩ := h
      refine dcomp_begin hr Rm K F a hns' hi hw fun g₁ s₁ d a₁ st₁ hd => ?_
      cases hds : d.items with
      | none => rw [hds] at hd; exact hd.elim
      | some ds =>
        rw [hds] at hd
        obtain ⟨hlen, hf⟩ := hd
        refine ⟨ds, rfl, fun I D C St s₂ b hac => ?_⟩
        have eI := b.aI.else (comp_fit (C := C) K F)
        have eD := b.aD.else (comp_fit (C := C) K F)
        have hCI : C ≠ I := Ne.symm b.aI.1
        have hf' : ds.foldr (stepD tab call t ik iv (restr σ (visOf csc))) (fun acc => P (.dict acc)) [] := hf
        clear hf
        refine dict_loop (dict_eq ..) (fun n s => ∃ i g ac, n = ds.length + 1 - i ∧ i ≤ ds.length ∧ Dyn s₁ g₁ (compEnv20 csc C env) csc (CM C csc [I, D]) g s ∧ g₁.le g ∧ St i s.heap ∧ AccD prog w g D ac s.heap ∧ ac.length ≤ i ∧
            Vars prog w g μ (compEnv20 csc C env) (less t (restr σ (visOf csc))) s ∧ (ds.drop i).foldr (stepD tab call t ik iv (restr σ (visOf csc))) (fun acc => P (.dict acc)) ac) ?_ (ds.length + 1)
          ⟨0, g₁, [], rfl, Nat.zero_le _, b.dyn, Zone.le.refl _, b.st, hac, Nat.zero_le _, b.vars.sub fun i e q => by
            unfold less at q
            split at q
            · cases q
            · exact q, by simpa using hf'⟩
        rintro n s₃ ⟨i, g₃, ac, rfl, hi', dy, le, st, hA, hl, V, hf⟩
        rcases Nat.lt_or_ge i ds.length with hlt | hge
        · rw [List.drop_eq_getElem_cons hlt, List.foldr_cons] at hf
          cases hb : bindT t ds[i] (restr σ (visOf csc)) with
          | none => rw [stepD_none hb] at hf; exact hf.elim
          | some τ =>
            rw [stepD_some hb] at hf
            refine b.src.item i s₃ _ _ hlt st fun v d h₁ tk₁ hd rd st₁' k₁ => ?_
            rw [List.getElem?_eq_getElem hlt] at hd
            cases hd
            have dy₁ := dy.touch (tk := tk₁) cm_I k₁ (b.src.here _ _ st₁') eI.1 (fun x c hx hc' e => eI.2 x hx (e ▸ hc'))
            have V₁ := V.write (tk := tk₁) b.aI k₁
            have A₁ : AccD prog w g₃ D ac h₁ := hA.keep (Zone.le.refl _) fun o e => k₁ _ o (Ne.symm b.ID) e
            refine b.src.go _ _ _ _ _ _ st₁' ?_
            rw [← bindT_less] at hb
            have stf : ∀ {j : Nat} {h h' : Heap}, (∀ b o, b = I ∨ (Else (compEnv20 csc C env) csc b ∧ b ≠ D ∧ ∃ o, s₁.heap.get? b = some o) → h.get? b = some o → h'.get? b = some o) → St j h → St j h' := by
              intro j h h' hk sj
              refine b.src.frame j h h' sj fun b' o hb e => hk b' o ?_ e
              have fin : (∃ o, s₁.heap.get? b' = some o) → b' = I ∨ (Else (compEnv20 csc C env) csc b' ∧ b' ≠ D ∧ ∃ o, s₁.heap.get? b' = some o) := fun ⟨o', ho⟩ => by
                have ne : ∀ a, CM C csc [I, D] a → b' ≠ a := fun a ha q => by have := b.dyn.new a ha; rw [← q, ho] at this; cases this
                exact .inr ⟨⟨ne _ b.frm.L, fun y hy q => ne _ (b.frm.own y _ hy q) rfl⟩, ne _ cm_D, o', ho⟩
              rcases hb with rfl | ⟨o', hb⟩ | ⟨o', hb⟩
              · exact .inl rfl
              · exact fin ⟨_, a₁.gin _ _ hb⟩
              · exact fin ⟨_, a₁.min _ _ hb⟩
            refine bind_ok Rm.handled b.frm dy₁ V₁ ht (rd.up le) hb fun h₂ tk₂ dy₂ V₂' k₂ => ?_
            have st₂ : St (i + 1) h₂ := stf (fun b' o hb' e => k₂ b' o (hb'.elim (fun q => q ▸ eI) fun q => q.1) e) st₁'
            have A₂ : AccD prog w g₃ D ac h₂ := A₁.keep (Zone.le.refl _) fun o e => k₂ _ o eD e
            have sub : ∀ j e, less t (restr σ (visOf csc)) j = some e → τ j = some e := fun j e q => bindT_sub (by rw [bindT_less] at hb; exact hb) q
            have at₂ := comp_at K F a₁ dy₂ V₂'
            refine (hr _ _ _ hk).1.run Rm (comp_fit K F) at₂ hf fun g₄ v₄ e₄ s₄ t₄ a₄ r₄ w₄ => (hr _ _ _ hv).1.run Rm (comp_fit K F) a₄ w₄ fun g₅ v₅ e₅ s₅ t₅ a₅ r₅ w₅ => ?_
            cases e₄ with
            | int ki =>
              obtain ⟨fz, hne, hf5⟩ := w₅
              obtain ⟨tt, rfl⟩ := r₄.isInt
              have t₄₅ := t₄.trans t₅
              have dy₅ := dy₂.on t₄₅
              obtain ⟨kvs, hd, hkk, rv⟩ := A₂.keep t₄₅.le fun o e => t₄₅.keep.ext _ o e
              have hkl : kvs.length = ac.length := by have := congrArg List.length hkk; simpa using this
              have hnew : ∀ p ∈ kvs, p.1 ≠ ki := fun p hp => by
                have : p.1 ∈ ac.map (·.1) := hkk ▸ List.mem_map.mpr ⟨p, hp, rfl⟩
                obtain ⟨q, hq, e⟩ := List.mem_map.mp this
                rw [← e]; exact hne q hq
              have hsz : kvs.length ≤ sizeLine := sizeLine_le (by omega)
              refine wpAny_dictSet_pairs (knd := intKind prog w) (k := ki) (by simp [intKind, Value.isInt]) hd (fun h₆ hd₆ hs₆ => ?_) hsz
              have k₆ : ∀ b o, b ≠ D → s₅.heap.get? b = some o → h₆.get? b = some o := fun b o hb e => hs₆.extBut b o hb e
              rw [stored_new hnew] at hd₆
              have A₆ : AccD prog w g₅ D (ac ++ [(ki, e₅)]) h₆ := ⟨_, hd₆, by rw [List.map_append, List.map_append, hkk]; rfl, by rw [List.map_append, List.map_append]; exact rv.append (.one (r₅.frz fz))⟩
              refine ⟨ds.length + 1 - (i + 1), by omega, i + 1, g₅, ac ++ [(ki, e₅)], rfl, hlt, dy₅.touch cm_D k₆ A₆.here eD.1 (fun x c hx hc' e => eD.2 x hx (e ▸ hc')), le.trans t₄₅.le, ?_, A₆, by rw [List.length_append, List.length_singleton]; omega, ((V₂'.on t₄₅).sub sub).write b.aD k₆, hf5⟩
              exact stf (fun b' o hb' e => k₆ b' o (hb'.elim (fun q => q ▸ b.ID) fun q => q.2.1) (t₄₅.keep.ext _ _ e)) st₂
            | _ => exact w₅.elim
        · have hin : i = ds.length := by omega
          subst hin
          refine b.src.done s₃ _ _ st fun h₁ tk₁ k₁ => ?_
          rw [List.drop_length] at hf
          have dy₁ := dy.drop (tk := tk₁) cm_I k₁ eI.1 (fun x c hx hc' e => eI.2 x hx (e ▸ hc'))
          obtain ⟨g'', o, _, e1, e2, e3, e4⟩ := dcomp_end (D := D) dy₁ b.sys ⟨cm_D, Ne.symm b.ID⟩ ⟨.inl rfl, hCI⟩ b.DC (hA.keep (Zone.le.refl _) fun o e => k₁ _ o (Ne.symm b.ID) e)
          exact hE g'' _ _ _ C (st₁.trans e2) e3 hf e4 (none_of_keep st₁.keep.ext (b.dyn.new C (.inl rfl))) dy₁.ns fun h' k' => st₁.trans (e1 h' k')
end
end Cut20
namespace Cut20

section
variable {prog : Program} {w : World} {mg mb : Str → Option Value} {tab : Str → Option Int} {call : Nat → List PV → Cb → Prop} {k : Nat} {sc : Scope} {r : Rec}

theorem lc_snd (hr : SndR prog w mg mb tab call k r) {elt : Expr} {gs : List Comprehension} {csc : Scope} {pos : Pos} {ie : IE} (h : cLC r sc elt gs csc = some ie) : Snd prog w mg mb tab call k sc (.ListComp elt gs csc pos) ie := by
  have h0 := h
  unfold cLC at h
  split at h
  · cases h
  · split at h
    · exact ⟨fun R F a D hw => comp1_run hr R F a h0 hw cend_value⟩
    · exact ⟨fun R F a D hw => comp2_run hr R F a h0 hw cend_value⟩
    · cases h
theorem dc_snd (hr : SndR prog w mg mb tab call k r) {kx vx : Expr} {gs : List Comprehension} {csc : Scope} {pos : Pos} {ie : IE} (h : cDC r sc kx vx gs csc = some ie) : Snd prog w mg mb tab call k sc (.DictComp kx vx gs csc pos) ie := by
  have h0 := h
  unfold cDC at h
  split at h
  · cases h
  · split at h
    · exact ⟨fun R F a D hw => dcomp_run hr R F a h0 hw cend_value⟩
    · cases h

theorem step_snd (hr : SndR prog w mg mb tab call k r) (hn : NoS r) (hc : CallOk prog w mg mb tab call k) : SndR prog w mg mb tab call k (cStep r) := by
  intro sc e ie h
  cases e with
  | Constant c kk p => exact ⟨const_snd h, sndT_of (const_snd h) fun _ _ => rfl⟩
  | Name x p => exact ⟨name_snd h, sndT_of (name_snd h) fun _ _ => rfl⟩
  | BinOp l op b p => exact ⟨bin_snd hr h, sndT_of (bin_snd hr h) fun _ _ => rfl⟩
  | UnaryOp op x p =>
    refine ⟨un_snd h, sndT_of (un_snd h) fun _ _ => ?_⟩
    cases op with
    | USub => cases x with
      | Constant c kk p => cases c with
        | int i => rfl
        | _ => exact no_some h
      | _ => exact no_some h
    | _ => exact no_some h
  | BoolOp op es p => exact bool_snd hr h
  | Compare l ops rs p => exact cmp_snd hr h
  | IfExp t a b p => exact ite_snd hr h
  | Tuple es x p => exact ⟨tup_snd hr hn h, sndT_of (tup_snd hr hn h) fun _ _ => rfl⟩
  | List es p => exact ⟨list_snd hr hn h, sndT_of (list_snd hr hn h) fun _ _ => rfl⟩
  | Call f as ks p =>
    cases f with
    | Attribute o m ap => exact ⟨meth_snd hr hn h, sndT_of (meth_snd hr hn h) fun _ _ => rfl⟩
    | Name f q => exact ⟨call_snd hr hn hc h, sndT_of (call_snd hr hn hc h) fun _ _ => rfl⟩
    | _ => exact no_some h
  | Subscript v i p => exact ⟨sub_snd hr h, sndT_of (sub_snd hr h) fun _ _ => rfl⟩
  | ListComp elt gs csc p => exact ⟨lc_snd hr h, sndT_of (lc_snd hr h) fun _ _ => rfl⟩
  | DictComp kx vx gs csc p => exact ⟨dc_snd hr h, sndT_of (dc_snd hr h) fun _ _ => rfl⟩
  | _ => exact no_some h
theorem cE_snd (hc : CallOk prog w mg mb tab call k) : ∀ n, SndR prog w mg mb tab call k (cE n)
  | 0 => fun _ _ _ h => by cases h
  | n + 1 => step_snd (cE_snd hc n) (fun _ _ _ h => noStar_of n h) hc
end
end Cut20
namespace Cut20

/-! A function's frame. -/
structure FEnv (env : Env) (sc : Scope) (M : Addr → Prop) : Prop where
  frm : Frm env sc M
  kind : ∀ x, env.kindOf x = sc.names.lookup x
  nofree : ∀ x, sc.names.lookup x ≠ some .free
  inter : interactive env = false
structure FInv (prog : Program) (w : World) (s₀ : Shared) (g₀ : Zone) (env : Env) (sc : Scope) (M : Addr → Prop) (gl ρ g μ : Zone) (own : Nat → Option Addr) (σ : Sg) (s : Shared) : Prop where
  dyn : Dyn s₀ g₀ env sc M g s
  low : gl.le g
  rin : ρ.In s.heap
  rout : ∀ a o, ρ a = some o → s₀.heap.get? a = none ∧ g a = none ∧ ¬ M a ∧ μ a = none
  min : μ.In s.heap
  mnew : ∀ a o, μ a = some o → s₀.heap.get? a = none ∧ g a = none ∧ ¬ M a
  vars : ∀ x i d, vid x = some i → σ i = some d → ∃ v, VarAt s.heap env x v ∧ (Rep prog w g v d ∨ ∃ a ds vs n, d = .cur ds ∧ v = .ref a ∧ own i = some a ∧ μ a = some ({ cls := .type "list", data := .seq (vs : List Value).toArray n } : Obj) ∧ RepAll prog w g vs ds)
  oinj : ∀ i j a, own i = some a → own j = some a → i = j
  oin : ∀ i a, own i = some a → ∃ o, μ a = some o

section
variable {prog : Program} {w : World} {mg mb : Str → Option Value} {tab : Str → Option Int} {call : Nat → List PV → Cb → Prop} {k : Nat} {A : Around} {s₀ s s' : Shared} {g₀ g g' μ gl ρ : Zone} {env : Env} {sc : Scope} {M : Addr → Prop} {own : Nat → Option Addr} {σ : Sg} {r : Rec}

theorem FInv.at (f : FInv prog w s₀ g₀ env sc M gl ρ g μ own σ s) (fe : FEnv env sc M) (S : Stat prog w mg mb tab s₀.heap) : At prog w mg mb tab g μ env σ s where
  gin := f.dyn.step.gin
  min := f.min
  stat := S.keeps f.dyn.step.keep.ext
  var := fun x i d hi hd => by
    obtain ⟨v, hv, h | ⟨a, ds, vs, n, rfl, rfl, _, hm, hr⟩⟩ := f.vars x i d hi hd
    · exact ⟨v, hv, .fr h⟩
    · exact ⟨_, hv, .cur hm hr⟩
  cel := fun x c hx hc => by
    have h : sc.names.lookup x = some .cell := by
      rcases hx with h | h
      · rw [← fe.kind]; exact h
      · rw [fe.kind] at h; exact absurd h (fe.nofree x)
    obtain ⟨c', u, e, q⟩ := f.dyn.cel x h
    rw [hc] at e; cases e
    exact ⟨u, q⟩
theorem FInv.on (f : FInv prog w s₀ g₀ env sc M gl ρ g μ own σ s) (st : Step g s g' s') : FInv prog w s₀ g₀ env sc M gl ρ g' μ own σ s' where
  dyn := f.dyn.on st
  low := f.low.trans st.le
  rin := f.rin.ext st.keep.ext
  rout := fun a o e => by
    obtain ⟨h1, h2, h3⟩ := f.rout a o e
    refine ⟨h1, ?_, h3⟩
    cases q : g' a with
    | none => rfl
    | some o' =>
      rcases st.fresh a o' q with h | h
      · rw [h2] at h; cases h
      · rw [f.rin a o e] at h; cases h
  min := f.min.ext st.keep.ext
  mnew := fun a o e => by
    refine ⟨(f.mnew a o e).1, ?_, (f.mnew a o e).2.2⟩
    cases q : g' a with
    | none => rfl
    | some o' =>
      rcases st.fresh a o' q with h | h
      · rw [(f.mnew a o e).2.1] at h; cases h
      · rw [f.min a o e] at h; cases h
  vars := fun x i d hi hd => by
    obtain ⟨v, hv, h⟩ := f.vars x i d hi hd
    refine ⟨v, hv.keeps st.keep.ext, ?_⟩
    rcases h with h | ⟨a, ds, vs, n, e1, e2, e3, e4, e5⟩
    · exact .inl (h.up st.le)
    · exact .inr ⟨a, ds, vs, n, e1, e2, e3, e4, e5.up st.le⟩
  oinj := f.oinj
  oin := f.oin

theorem store_of {x : Str} {i : Nat} (h : cStore sc x = some i) : (sc.names.lookup x = some .local ∨ sc.names.lookup x = some .cell) ∧ vid x = some i := by
  unfold cStore at h
  split at h
  · rename_i hc; exact ⟨by simpa using hc, h⟩
  · cases h

/-- a name is bound to a frozen datum -/
theorem FInv.store {x : Str} {i : Nat} {v : Value} {d : PV} {Q : Unit → Shared → Prop} (f : FInv prog w s₀ g₀ env sc M gl ρ g μ own σ s) (fe : FEnv env sc M) (hx : sc.names.lookup x = some .local ∨ sc.names.lookup x = some .cell) (hi : vid x = some i) (hd : Rep prog w g v d)
    (hq : ∀ a h' tk, M a → Heap.SameBut a s.heap h' → FInv prog w s₀ g₀ env sc M gl ρ g μ own (upd σ i d) { s with heap := h', toks := tk } → Q () { s with heap := h', toks := tk }) :
    wpAny (model prog w) A (storeName env x v) Q noE s :=
  fe.frm.store f.dyn hx fun a h' tk ha hw hs hv hy dy' => hq a h' tk ha hs
    { dyn := dy', low := f.low, rin := fun b o e => hs.extBut b o (fun q => (f.rout b o e).2.2.1 (q ▸ ha)) (f.rin b o e), rout := f.rout, min := fun b o e => hs.extBut b o (fun q => (f.mnew b o e).2.2 (q ▸ ha)) (f.min b o e), mnew := f.mnew, oinj := f.oinj, oin := f.oin,
      vars := fun y j e hj he => by
        unfold upd at he
        by_cases hji : j = i
        · subst hji
          rw [if_pos rfl] at he
          cases he
          rw [vid_inj hj hi]
          exact ⟨v, hv, .inl hd⟩
        · rw [if_neg hji] at he
          obtain ⟨u, p, q⟩ := f.vars y j e hj he
          exact ⟨u, hy y u (fun c => hji (by rw [c] at hj; rw [hj] at hi; exact Option.some.inj hi)) p, q⟩ }

/-- a name is bound to a list of its own -/
theorem FInv.storeNew {x : Str} {i : Nat} {vs : List Value} {ds : List PV} {Q : Unit → Shared → Prop} (f : FInv prog w s₀ g₀ env sc M gl ρ g μ own σ s) (fe : FEnv env sc M) (hx : sc.names.lookup x = some .local ∨ sc.names.lookup x = some .cell) (hi : vid x = some i) (hr : RepAll prog w g vs ds)
    (hq : ∀ μ' own' h' tk, FInv prog w s₀ g₀ env sc M gl ρ g μ' own' (upd σ i (.cur ds)) { s with heap := h', toks := tk } → Q () { s with heap := h', toks := tk }) :
    wpAny (model prog w) A (storeName env x (.ref s.heap.objs.size)) Q noE { s with heap := s.heap.push { cls := .type "list", data := .seq vs.toArray } } := by
  have hfree : s.heap.get? s.heap.objs.size = none := get?_size _
  have nM : ¬ M s.heap.objs.size := fun h => by obtain ⟨o, e⟩ := f.dyn.here _ h; rw [hfree] at e; cases e
  have nμ : μ s.heap.objs.size = none := Zone.none_of f.min hfree
  have f₁ : FInv prog w s₀ g₀ env sc M gl ρ g (μ.add s.heap.objs.size { cls := .type "list", data := .seq vs.toArray }) (fun j => if j = i then some s.heap.objs.size else own j) (fun j => if j = i then none else σ j) { s with heap := s.heap.push { cls := .type "list", data := .seq vs.toArray } } := by
    have st : Step g s g { s with heap := s.heap.push { cls := .type "list", data := .seq vs.toArray } } := .of f.dyn.step.gin .push
    have f' := f.on st
    refine ⟨f'.dyn, f'.low, f'.rin, fun b o e => ?_, fun b o e => ?_, fun b o e => ?_, fun y j e hj he => ?_, fun a b c h1 h2 => ?_, fun j a h => ?_⟩
    · obtain ⟨h1, h2, h3, h4⟩ := f'.rout b o e
      refine ⟨h1, h2, h3, ?_⟩
      have hb : b ≠ s.heap.objs.size := fun q => by have := f.rin b o e; rw [q, hfree] at this; cases this
      unfold Zone.add
      rw [if_neg hb]; exact h4
    · unfold Zone.add at e
      by_cases q : b = s.heap.objs.size
      · rw [if_pos q] at e; cases e; rw [q]; exact Heap.get?_push_size _ rfl
      · rw [if_neg q] at e; exact f'.min b o e
    · unfold Zone.add at e
      by_cases q : b = s.heap.objs.size
      · rw [q]; exact ⟨none_of_keep f.dyn.step.keep.ext hfree, Zone.none_of f.dyn.step.gin hfree, nM⟩
      · rw [if_neg q] at e; exact f'.mnew b o e
    · by_cases q : j = i
      · simp only [q, if_true] at he; cases he
      · simp only [q, if_false] at he
        obtain ⟨v, hv, h⟩ := f'.vars y j e hj he
        refine ⟨v, hv, ?_⟩
        rcases h with h | ⟨a, ds, vs', n, e1, e2, e3, e4, e5⟩
        · exact .inl h
        · exact .inr ⟨a, ds, vs', n, e1, e2, by simp only [q, if_false]; exact e3, Zone.le_add nμ _ _ e4, e5⟩
    · by_cases qa : a = i <;> by_cases qb : b = i
      · rw [qa, qb]
      · simp only [qa, if_true, Option.some.injEq] at h1
        simp only [qb, if_false] at h2
        obtain ⟨o, e⟩ := f.oin _ _ h2
        rw [← h1, nμ] at e; cases e
      · simp only [qb, if_true, Option.some.injEq] at h2
        simp only [qa, if_false] at h1
        obtain ⟨o, e⟩ := f.oin _ _ h1
        rw [← h2, nμ] at e; cases e
      · simp only [qa, if_false] at h1
        simp only [qb, if_false] at h2
        exact f.oinj _ _ _ h1 h2
    · by_cases q : j = i
      · simp only [q, if_true, Option.some.injEq] at h
        exact ⟨_, by rw [← h]; exact Zone.add_self⟩
      · simp only [q, if_false] at h
        obtain ⟨o, e⟩ := f.oin _ _ h
        exact ⟨o, Zone.le_add nμ _ _ e⟩
  refine fe.frm.store f₁.dyn hx fun a h' tk ha hw hs hv hy dy' => hq _ _ h' tk
    { dyn := dy', low := f₁.low, rin := fun b o e => hs.extBut b o (fun q => (f₁.rout b o e).2.2.1 (q ▸ ha)) (f₁.rin b o e), rout := f₁.rout, min := fun b o e => hs.extBut b o (fun q => (f₁.mnew b o e).2.2 (q ▸ ha)) (f₁.min b o e), mnew := f₁.mnew, oinj := f₁.oinj, oin := f₁.oin,
      vars := fun y j e hj he => ?_ }
  unfold upd at he
  by_cases hji : j = i
  · subst hji
    rw [if_pos rfl] at he
    cases he
    rw [vid_inj hj hi]
    exact ⟨_, hv, .inr ⟨_, ds, vs, 0, rfl, rfl, by simp, Zone.add_self, hr⟩⟩
  · rw [if_neg hji] at he
    obtain ⟨u, p, q⟩ := f₁.vars y j e hj (by simp only [hji, if_false]; exact he)
    exact ⟨u, hy y u (fun c => hji (by rw [c] at hj; rw [hj] at hi; exact Option.some.inj hi)) p, q⟩

theorem FInv.away (f : FInv prog w s₀ g₀ env sc M gl ρ g μ own σ s) (fe : FEnv env sc M) {a : Addr} {o : Obj} (h : μ a = some o) : Away env a := by
  have nM := (f.mnew a o h).2.2
  refine ⟨fun q => nM (q ▸ fe.frm.L), fun x c hx hc q => nM ?_⟩
  have hk : sc.names.lookup x = some .cell := by
    rcases hx with h | h
    · rw [← fe.kind]; exact h
    · rw [fe.kind] at h; exact absurd h (fe.nofree x)
  exact q ▸ fe.frm.own x c hk hc

theorem Dyn.outside {a : Addr} {h' : Heap} {tk : Nat} (d : Dyn s₀ g₀ env sc M g s) (n0 : s₀.heap.get? a = none) (ng : g a = none) (nM : ¬ M a) (hk : ∀ b o, b ≠ a → s.heap.get? b = some o → h'.get? b = some o)
    (hL : a ≠ env.locals) (hc : ∀ x c, sc.names.lookup x = some .cell → env.cells.lookup x = some c → a ≠ c) : Dyn s₀ g₀ env sc M g { s with heap := h', toks := tk } where
  step := { le := d.step.le, fresh := d.step.fresh,
            gin := fun b o e => hk b o (fun q => by rw [q, ng] at e; cases e) (d.step.gin b o e),
            keep := by
              obtain ⟨h₁, t₁, rfl, e₁⟩ := d.step.keep.is
              exact ⟨h', tk, rfl, fun b o e => hk b o (fun q => by rw [q, n0] at e; cases e) (e₁ b o e)⟩ }
  new := d.new
  out := d.out
  here := fun b hb => let ⟨o, e⟩ := d.here b hb; ⟨o, hk b o (fun q => nM (q ▸ hb)) e⟩
  ns := let ⟨m, n⟩ := d.ns; ⟨m, n.at' fun o e => hk _ o (Ne.symm hL) e⟩
  cel := fun x hx => let ⟨c, u, e, o, ho, hd⟩ := d.cel x hx; ⟨c, u, e, o, hk _ _ (Ne.symm (hc x c hx e)) ho, hd⟩
/-- a list that a name holds alone is turned -/
theorem FInv.turn {i : Nat} {a : Addr} {o : Obj} {vs' : List Value} {n' : Nat} {ds' : List PV} {h' : Heap} {tk : Nat} (f : FInv prog w s₀ g₀ env sc M gl ρ g μ own σ s) (fe : FEnv env sc M) (ho : own i = some a) (hm : μ a = some o) (hs : Heap.SameBut a s.heap h')
    (he : h'.get? a = some ({ cls := .type "list", data := .seq vs'.toArray n' } : Obj)) (hr : RepAll prog w g vs' ds') (hx : ∃ x, vid x = some i ∧ VarAt s.heap env x (.ref a)) :
    FInv prog w s₀ g₀ env sc M gl ρ g (fun b => if b = a then some ({ cls := .type "list", data := .seq vs'.toArray n' } : Obj) else μ b) own (upd σ i (.cur ds')) { s with heap := h', toks := tk } := by
  obtain ⟨n0, ng, nM⟩ := f.mnew a o hm
  have aw := f.away fe hm
  have hk : ∀ b o, b ≠ a → s.heap.get? b = some o → h'.get? b = some o := fun b o hb e => hs.extBut b o hb e
  have va : ∀ {y u}, VarAt s.heap env y u → VarAt h' env y u := fun {y u} hv => by
    rcases hv with ⟨p, m, n, e⟩ | ⟨p, c, e, o, ho, hd⟩
    · exact .inl ⟨p, m, n.at' fun o e => hk _ o (Ne.symm aw.1) e, e⟩
    · exact .inr ⟨p, c, e, o, hk _ _ (aw.2 y c p e) ho, hd⟩
  refine ⟨?_, f.low, fun b o' e => hk b o' (fun q => by have := (f.rout b o' e).2.2.2; rw [q, hm] at this; cases this) (f.rin b o' e), fun b o' e => ?_, fun b o' e => ?_, fun b o' e => ?_, fun y j e hj he' => ?_, f.oinj, fun j b h => ?_⟩
  · exact f.dyn.outside n0 ng nM hk aw.1 fun x c hx e => Ne.symm (aw.2 x c (.inl (fe.frm.fit.cel x hx)) e)
  · obtain ⟨h1, h2, h3, h4⟩ := f.rout b o' e
    refine ⟨h1, h2, h3, ?_⟩
    rw [if_neg fun q => by rw [q, hm] at h4; cases h4]; exact h4
  · skip
    by_cases q : b = a
    · rw [if_pos q] at e; cases e; rw [q]; exact he
    · rw [if_neg q] at e; exact hk b o' q (f.min b o' e)
  · skip
    by_cases q : b = a
    · rw [q]; exact ⟨n0, ng, nM⟩
    · rw [if_neg q] at e; exact f.mnew b o' e
  · unfold upd at he'
    by_cases hji : j = i
    · subst hji
      rw [if_pos rfl] at he'
      cases he'
      obtain ⟨x, hx, hv⟩ := hx
      rw [vid_inj hj hx]
      exact ⟨_, va hv, .inr ⟨a, ds', vs', n', rfl, rfl, ho, if_pos rfl, hr⟩⟩
    · rw [if_neg hji] at he'
      obtain ⟨v, hv, h⟩ := f.vars y j e hj he'
      refine ⟨v, va hv, ?_⟩
      rcases h with h | ⟨b, ds, vs, n, e1, e2, e3, e4, e5⟩
      · exact .inl h
      · refine .inr ⟨b, ds, vs, n, e1, e2, e3, ?_, e5⟩
        have hba : b ≠ a := fun q => hji (f.oinj _ _ a (by rw [← q]; exact e3) ho)
        rw [if_neg hba]
        exact e4
  · obtain ⟨o', e⟩ := f.oin j b h
    by_cases q : b = a
    · exact ⟨_, if_pos q⟩
    · exact ⟨o', by rw [if_neg q]; exact e⟩

/-- an iterator that is guarded is moved -/
theorem FInv.move {I : Addr} {o o' : Obj} {h' : Heap} {tk : Nat} (f : FInv prog w s₀ g₀ env sc M gl (Zone.add ρ I o) g μ own σ s) (fe : FEnv env sc M) (aw : Away env I) (hk : ∀ b x, b ≠ I → s.heap.get? b = some x → h'.get? b = some x) (hh : h'.get? I = some o') :
    FInv prog w s₀ g₀ env sc M gl (Zone.add ρ I o') g μ own σ { s with heap := h', toks := tk } := by
  obtain ⟨n0, ng, nM, nμ⟩ := f.rout I o Zone.add_self
  refine ⟨f.dyn.outside n0 ng nM hk aw.1 fun x c hx e => Ne.symm (aw.2 x c (.inl (fe.frm.fit.cel x hx)) e), f.low, fun b x e => ?_, fun b x e => ?_, fun b x e => hk b x (fun q => by rw [q, nμ] at e; cases e) (f.min b x e), f.mnew, fun x i d hi hd => ?_, f.oinj, f.oin⟩
  · unfold Zone.add at e
    by_cases q : b = I
    · rw [if_pos q] at e; cases e; rw [q]; exact hh
    · rw [if_neg q] at e
      refine hk b x q (f.rin b x ?_)
      unfold Zone.add; rw [if_neg q]; exact e
  · by_cases q : b = I
    · rw [q]; exact ⟨n0, ng, nM, nμ⟩
    · unfold Zone.add at e
      rw [if_neg q] at e
      refine f.rout b x ?_
      unfold Zone.add; rw [if_neg q]; exact e
  · obtain ⟨v, hv, h⟩ := f.vars x i d hi hd
    refine ⟨v, ?_, h⟩
    rcases hv with ⟨p, m, n, e⟩ | ⟨p, c, e, o, ho, hd⟩
    · exact .inl ⟨p, m, n.at' fun o e => hk _ o (Ne.symm aw.1) e, e⟩
    · exact .inr ⟨p, c, e, o, hk _ _ (aw.2 x c p e) ho, hd⟩
/-- an iterator is guarded from here on -/
theorem FInv.guard {I : Addr} {o : Obj} (f : FInv prog w s₀ g₀ env sc M gl ρ g μ own σ s) (n0 : s₀.heap.get? I = none) (ng : g I = none) (nM : ¬ M I) (nμ : μ I = none) (hh : s.heap.get? I = some o) {gl' : Zone} (hl : gl'.le g) :
    FInv prog w s₀ g₀ env sc M gl' (Zone.add ρ I o) g μ own σ s :=
  ⟨f.dyn, hl, fun b x e => by
    unfold Zone.add at e
    by_cases q : b = I
    · rw [if_pos q] at e; cases e; rw [q]; exact hh
    · rw [if_neg q] at e; exact f.rin b x e, fun b x e => by
    unfold Zone.add at e
    by_cases q : b = I
    · rw [q]; exact ⟨n0, ng, nM, nμ⟩
    · rw [if_neg q] at e; exact f.rout b x e, f.min, f.mnew, f.vars, f.oinj, f.oin⟩
theorem FInv.unguard {ρ' gl' : Zone} (f : FInv prog w s₀ g₀ env sc M gl ρ g μ own σ s) (hr : ρ'.le ρ) (hl : gl'.le gl) : FInv prog w s₀ g₀ env sc M gl' ρ' g μ own σ s :=
  ⟨f.dyn, hl.trans f.low, fun b x e => f.rin b x (hr b x e), fun b x e => f.rout b x (hr b x e), f.min, f.mnew, f.vars, f.oinj, f.oin⟩
end
end Cut20
namespace Cut20

/-! Statements. -/
noncomputable def Out (prog : Program) (w : World) (s₀ : Shared) (g₀ : Zone) (env : Env) (sc : Scope) (M : Addr → Prop) (gl ρ : Zone) (N B : Sg → Prop) (R : Cb) (f : Flow) (s' : Shared) : Prop := match f with
  | .next => ∃ g μ own σ, FInv prog w s₀ g₀ env sc M gl ρ g μ own σ s' ∧ N σ
  | .brk => ∃ g μ own σ, FInv prog w s₀ g₀ env sc M gl ρ g μ own σ s' ∧ B σ
  | .ret v => ∃ g d, Step g₀ s₀ g s' ∧ Rep prog w g v d ∧ R d
  | .cont => False
section
variable (prog : Program) (w : World) (mg mb : Str → Option Value) (tab : Str → Option Int) (call : Nat → List PV → Cb → Prop)
structure SndX (k : Nat) (sc : Scope) (st : Stmt) (is : IS) : Prop where
  ok : ∀ {A : Around} {env : Env} {s₀ : Shared} {g₀ gl ρ g μ : Zone} {M : Addr → Prop} {own : Nat → Option Addr} {σ : Sg} {s : Shared}, Room k A → FEnv env sc M → Stat prog w mg mb tab s₀.heap → FInv prog w s₀ g₀ env sc M gl ρ g μ own σ s →
    ∀ (N B : Sg → Prop) (R : Cb), WS tab call is σ N B R → wpAny (model prog w) A (exec st env) (Out prog w s₀ g₀ env sc M gl ρ N B R) noE s
structure SndS (k : Nat) (sc : Scope) (sts : List Stmt) (is : IS) : Prop where
  ok : ∀ {A : Around} {env : Env} {s₀ : Shared} {g₀ gl ρ g μ : Zone} {M : Addr → Prop} {own : Nat → Option Addr} {σ : Sg} {s : Shared}, Room k A → FEnv env sc M → Stat prog w mg mb tab s₀.heap → FInv prog w s₀ g₀ env sc M gl ρ g μ own σ s →
    ∀ (N B : Sg → Prop) (R : Cb), WS tab call is σ N B R → wpAny (model prog w) A (execs sts env) (Out prog w s₀ g₀ env sc M gl ρ N B R) noE s
end

section
variable {prog : Program} {w : World} {mg mb : Str → Option Value} {tab : Str → Option Int} {call : Nat → List PV → Cb → Prop} {k : Nat} {A : Around} {s₀ s s' : Shared} {g₀ g g' μ gl ρ : Zone} {env : Env} {sc : Scope} {M : Addr → Prop} {own : Nat → Option Addr} {σ : Sg} {r : Rec}

/-- an expression evaluated within a function -/
theorem Snd.go {e : Expr} {ie : IE} {D : Cb} {Q : Value → Shared → Prop} (h : Snd prog w mg mb tab call k sc e ie) (Rm : Room k A) (fe : FEnv env sc M) (S : Stat prog w mg mb tab s₀.heap) (f : FInv prog w s₀ g₀ env sc M gl ρ g μ own σ s) (hw : W tab call ie σ D)
    (hq : ∀ g' v d s', Step g s g' s' → FInv prog w s₀ g₀ env sc M gl ρ g' μ own σ s' → RepM prog w g' μ v d → D d → Q v s') : wpAny (model prog w) A (eval e env) Q noE s :=
  h.run Rm fe.frm.fit (f.at fe S) hw fun g' v d s' st _ r q => hq g' v d s' st (f.on st) r q
theorem SndT.go {e : Expr} {ie : IE} {T : Bool → Prop} {Q : Bool → Shared → Prop} (h : SndT prog w mg mb tab call k sc e ie) (Rm : Room k A) (fe : FEnv env sc M) (S : Stat prog w mg mb tab s₀.heap) (f : FInv prog w s₀ g₀ env sc M gl ρ g μ own σ s) (hw : W tab call ie σ fun d => truth d T)
    (hq : ∀ g' b s', FInv prog w s₀ g₀ env sc M gl ρ g' μ own σ s' → T b → Q b s') : wpAny (model prog w) A (isTrue e env (eval e env)) Q noE s :=
  h.run Rm fe.frm.fit (f.at fe S) hw fun g' b s' st _ q => hq g' b s' (f.on st) q

theorem var_of {x : Str} {i : Nat} (h : cVar sc x = some i) : vid x = some i := by
  unfold cVar at h
  split at h
  · exact h
  · cases h
/-- a name that holds a list of its own -/
theorem FInv.cur (f : FInv prog w s₀ g₀ env sc M gl ρ g μ own σ s) {x : Str} {i : Nat} {ds : List PV} (hi : vid x = some i) (hd : σ i = some (.cur ds)) :
    ∃ a vs n, VarAt s.heap env x (.ref a) ∧ own i = some a ∧ μ a = some ({ cls := .type "list", data := .seq (vs : List Value).toArray n } : Obj) ∧ RepAll prog w g vs ds ∧ s.heap.get? a = some ({ cls := .type "list", data := .seq (vs : List Value).toArray n } : Obj) := by
  obtain ⟨v, hv, h | ⟨a, ds', vs, n, e, rfl, h1, h2, h3⟩⟩ := f.vars x i _ hi hd
  · cases h
  · cases e; exact ⟨a, vs, n, hv, h1, h2, h3, f.min _ _ h2⟩
theorem load_var {x : Str} {v : Value} {Q : Value → Shared → Prop} {i : Nat} (fe : FEnv env sc M) (hv : VarAt s.heap env x v) (hi : vid x = some i) (h : Q v s) : wpAny (model prog w) A (loadName env x) Q noE s :=
  var_ok fe.frm.fit.kind hv (vid_plain hi).2 h
theorem eval_var {x : Str} {v : Value} {Q : Value → Shared → Prop} {i : Nat} {pos : Pos} (fe : FEnv env sc M) (hv : VarAt s.heap env x v) (hi : vid x = some i) (h : Q v s) : wpAny (model prog w) A (eval (.Name x pos) env) Q noE s :=
  wpAny_Name (load_var fe hv hi h) (vid_plain hi).1

theorem set_exact {l : Addr} {vs : List Value} {n : Nat} {j : Int} {t : Tok} {v : Value} {Q : Unit → Shared → Prop} (ho : s.heap.get? l = some ({ cls := .type "list", data := .seq vs.toArray n } : Obj)) (h0 : 0 ≤ j) (hfit : j < 2 ^ 63) (hn : j < vs.length)
    (hq : ∀ h' n', h'.get? l = some ({ cls := .type "list", data := .seq (vs.set j.toNat v).toArray n' } : Obj) → Heap.SameBut l s.heap h' → Q () { s with heap := h' }) :
    wpAny (model prog w) A (setItem (.ref l) (.int j t) v) Q noE s := by
  have hl := isList_of ho
  unfold setItem
  try with_reducible refine wpAny_holding ?_
  first | refine wpAny_bind (wpAny_pure ?_) | skip
  refine wpAny_bind (wpAny_sequenceKey hl.typeIs (by decide) ?_)
  refine wpAny_bind (wpAny_callSpecial?_slot (name := Str.ofString "__setitem__") hl.typeIs slot_list_setitem
    (wpAny_call_entry slot_list_setitem hl.typeIs entry_list_setitem ?_ (args_list_setitem _ _ _)))
  show wpAny _ _ (Builtin.List.listSubscript? (.int j t) >>= _) _ _ s
  refine wpAny_bind (wpAny_listSubscript_int (fitsIndex_of h0 hfit) ?_)
  clear hfit
  obtain ⟨m, rfl⟩ := Int.eq_ofNat_of_zero_le h0
  have hm : m < vs.toArray.size := by rw [List.size_toArray]; omega
  have hx' : vs.toArray[m]? = some vs.toArray[m] := Array.getElem?_eq_getElem hm
  show wpAny _ _ ((seqItemAt l m >>= fun r => pure (r.map (m, ·))) >>= _) _ _ s
  refine wpAny_bind (wpAny_bind (wpAny_seqItemAt ho rfl (wpAny_pure ?_)))
  rw [hx']
  show wpAny _ _ (setSeqItemAt l m v >>= _) _ _ s
  have hg := get?_update_seq ho (·.setIfInBounds m v)
  have es : vs.toArray.setIfInBounds m v = (vs.set m v).toArray := by
    apply Array.toList_inj.mp
    simp
  have hfin : ∃ n', (s.heap.update l (Obj.mapSeq (·.setIfInBounds m v))).get? l = some ({ cls := .type "list", data := .seq (vs.set m v).toArray n' } : Obj) := ⟨_, by rw [hg, es]⟩
  obtain ⟨n', hfin⟩ := hfin
  refine wpAny_bind (wpAny_setSeqItemAt ho rfl ?_)
  first
    | exact wpAny_bind (wpAny_pure (wpAny_pure ⟨.none, rfl, wpAny_pure (hq _ _ hfin (Heap.SameBut.update ..))⟩))
    | exact wpAny_pure ⟨.none, rfl, wpAny_pure (hq _ _ hfin (Heap.SameBut.update ..))⟩

theorem iadd_ok {x y : Value} {a b : PV} {D : Cb} (gi : g.In s.heap) (hx : RepM prog w g μ x a) (hy : RepM prog w g μ y b) (h : binW .add a b fun r => r.fz ∧ (match r with | .list _ => False | _ => True) ∧ D r) :
    wpAny (model prog w) A (inplaceOp .Add x y) (fun v s' => ∃ d, s' = { s with toks := s'.toks } ∧ Rep prog w g v d ∧ D d) noE s := by
  cases a <;> cases b <;> first | exact (show False from h).elim | skip
  · obtain ⟨t, rfl⟩ := hx.isInt
    obtain ⟨u, rfl⟩ := hy.isInt
    exact PySem.P.iadd_int ⟨_, rfl, .int _ _, h.2.2⟩
  · obtain ⟨t, rfl⟩ := hx.isStr
    obtain ⟨u, rfl⟩ := hy.isStr
    have h' := h
    exact PyProof.Rows.iadd_str (fun t' tk => ⟨_, rfl, .str _ _, h.2.2.2⟩) (sizeLine_le (by have := h'.1; omega))
  · exact h.2.2.1.elim

/-- a display of written ints and pairs of them -/
theorem disp_run {pos : Pos} : ∀ (es : List Expr) (ds : List PV) {g : Zone} {s : Shared} {Q : List Value → Shared → Prop}, cItems es = some ds → g.In s.heap →
    (∀ vs g' s', Step g s g' s' → RepAll prog w g' vs ds → vs.length = ds.length → Q vs s') → wpAny (model prog w) A (spliced (backTo pos (starEach es env))) Q noE s
  | [], ds, g, s, Q, h, gi, hq => by
    cases h
    exact spl_nil (hq [] g s (.refl gi) .nil rfl)
  | e :: es, ds, g, s, Q, h, gi, hq => by
    simp only [cItems, Option.bind_eq_bind, Option.bind_eq_some_iff, Option.some.injEq] at h
    obtain ⟨d, hd, rest, hrest, rfl⟩ := h
    have next : ∀ {v : Value} {g₁ : Zone} {s₁ : Shared}, Step g s g₁ s₁ → Rep prog w g₁ v d → wpAny (model prog w) A (spliced (backTo pos (starEach es env))) (fun vs s₂ => Q (v :: vs) s₂) noE s₁ := fun {v g₁ s₁} st rv =>
      disp_run es rest hrest st.gin fun vs g' s' st' rvs hl => hq _ g' s' (st.trans st') (.cons (rv.up st'.le) rvs) (by simp [hl])
    rcases cItem_of hd with ⟨i, ki, pi, rfl, rfl⟩ | ⟨i, ki, pi, j, kj, pj, kt, pt, rfl, rfl⟩
    · exact spl_cons rfl (wpAny_Constant_int (next (.of gi .tok) (.int _ _)))
    · refine spl_cons rfl (wpAny_Tuple (spl_cons rfl (wpAny_Constant_int (spl_cons rfl (wpAny_Constant_int (spl_nil ⟨sizeLine_le (by simp), ?_⟩))))))
      refine next (g₁ := g.add s.heap.objs.size { cls := .type "tuple", data := .seq [Value.int i s.toks, Value.int j (s.toks + 1)].toArray }) (.add gi ⟨_, s.toks + 1 + 1, rfl, fun b o e => Heap.get?_push_of_some _ e⟩ (get?_size _) (Heap.get?_push_size _ rfl)) ?_
      exact .tup Zone.add_self (.cons (.int _ _) (.cons (.int _ _) .nil))
theorem disp_len : ∀ (es : List Expr) (ds : List PV), cItems es = some ds → ds.length = es.length
  | [], ds, h => by cases h; rfl
  | e :: es, ds, h => by
    simp only [cItems, Option.bind_eq_bind, Option.bind_eq_some_iff, Option.some.injEq] at h
    obtain ⟨d, hd, rest, hrest, rfl⟩ := h
    simp [disp_len es rest hrest]
end
end Cut20
namespace Cut20

section
variable {prog : Program} {w : World} {mg mb : Str → Option Value} {tab : Str → Option Int} {call : Nat → List PV → Cb → Prop} {k : Nat} {A : Around} {s₀ s s' : Shared} {g₀ g g' μ gl ρ : Zone} {env : Env} {sc : Scope} {M : Addr → Prop} {own : Nat → Option Addr} {σ : Sg} {r : Rec}

theorem FEnv.awayM (fe : FEnv env sc M) {a : Addr} (nM : ¬ M a) : Away env a := by
  refine ⟨fun q => nM (q ▸ fe.frm.L), fun x c hx hc q => nM ?_⟩
  have hk : sc.names.lookup x = some .cell := by
    rcases hx with h | h
    · rw [← fe.kind]; exact h
    · rw [fe.kind] at h; exact absurd h (fe.nofree x)
  exact q ▸ fe.frm.own x c hk hc
theorem FInv.other {C : Addr} {h' : Heap} {tk : Nat} (f : FInv prog w s₀ g₀ env sc M gl ρ g μ own σ s) (fe : FEnv env sc M) (nM : ¬ M C) (ng : g C = none) (n0 : s₀.heap.get? C = none) (nμ : μ C = none) (nρ : ρ C = none)
    (hk : ∀ b o, b ≠ C → s.heap.get? b = some o → h'.get? b = some o) : FInv prog w s₀ g₀ env sc M gl ρ g μ own σ { s with heap := h', toks := tk } := by
  have aw := fe.awayM nM
  refine ⟨f.dyn.outside n0 ng nM hk aw.1 fun x c hx e => Ne.symm (aw.2 x c (.inl (fe.frm.fit.cel x hx)) e), f.low, fun b o e => hk b o (fun q => by rw [q, nρ] at e; cases e) (f.rin b o e), f.rout, fun b o e => hk b o (fun q => by rw [q, nμ] at e; cases e) (f.min b o e), f.mnew, fun x i d hi hd => ?_, f.oinj, f.oin⟩
  obtain ⟨v, hv, h⟩ := f.vars x i d hi hd
  refine ⟨v, ?_, h⟩
  rcases hv with ⟨p, m, n, e⟩ | ⟨p, c, e, o, ho, hd⟩
  · exact .inl ⟨p, m, n.at' fun o e => hk _ o (Ne.symm aw.1) e, e⟩
  · exact .inr ⟨p, c, e, o, hk _ _ (aw.2 x c p e) ho, hd⟩

/-- a comprehension whose value is stored as it ends -/
theorem cend_use {x : Str} {p : Pos} {i : Nat} {P N : Sg → Prop} {D : Cb} {Q : Value → Shared → Prop} (fe : FEnv env sc M) (f : FInv prog w s₀ g₀ env sc M gl ρ g μ own σ s) (hx : sc.names.lookup x = some .local ∨ sc.names.lookup x = some .cell) (hi : vid x = some i)
    (hD : ∀ d, D d → N (upd σ i d)) (hQ : ∀ g' σ' s', FInv prog w s₀ g₀ env sc M gl ρ g' μ own σ' s' → N σ' → Q .none s') : CEnd prog w A g s D (some (assign (.Name x p) env)) Q := by
  intro g'' v d s' C st rv hd hC hn hm hs
  have f₁ := f.on st
  show wpAny _ A (assign (.Name x p) env v) _ noE s'
  refine wpAny_assign_Name (f₁.store fe hx hi rv fun a h₂ tk ha hsb f₂ => ?_)
  obtain ⟨m, hm⟩ := hm
  have nM : ¬ M C := fun h => by obtain ⟨o, e⟩ := f.dyn.here C h; rw [hn] at e; cases e
  refine ⟨m, hm.sameBut hsb fun q => nM (q ▸ ha), fun h' hs' => hQ g'' _ _ (f₂.other (tk := tk) fe nM hC (none_of_keep f.dyn.step.keep.ext hn) (Zone.none_of f.min hn) (Zone.none_of f.rin hn) fun b o hb e => hs'.extBut b o hb e) (hD d hd)⟩

theorem asg_snd {n : Nat} (hc : CallOk prog w mg mb tab call k) {x : Str} {p pos : Pos} {i : Nat} {v : Expr} {ie : IE} (hx : cStore sc x = some i) (hv : cE n sc v = some ie) : SndX prog w mg mb tab call k sc (.Assign [.Name x p] v pos) (.asg i ie) := by
  have hr := cE_snd hc n
  cases n with
  | zero => cases hv
  | succ n =>
  have hr' := cE_snd hc n
  refine ⟨fun {A env s₀ g₀ gl ρ g μ M own σ s} Rm fe S f N B R hw => ?_⟩
  obtain ⟨hx', hi⟩ := store_of hx
  have plain : swapsWith v (some (.Name x p)) pos.line env = pure false → wpAny (model prog w) A (exec (.Assign [.Name x p] v pos) env) (Out prog w s₀ g₀ env sc M gl ρ N B R) noE s := fun hs =>
    wpAny_Assign_Name ((hr _ _ _ hv).1.go Rm fe S f hw fun g' v d s' st f' rv hd => f'.store fe hx' hi (rv.frz hd.1) fun a h' tk _ _ f'' => ⟨g', μ, own, _, f'', hd.2⟩) hs
  have used : ∀ {e : Sem Value}, swapsWith v (some (.Name x p)) pos.line env = pure true → (evalThenUse v env (assign (.Name x p) env) = (do let _ ← e)) →
      (∀ Q, CEnd prog w A g s (fun d => d.fz ∧ N (upd σ i d)) (some (assign (.Name x p) env)) Q → wpAny (model prog w) A e Q noE s) → wpAny (model prog w) A (exec (.Assign [.Name x p] v pos) env) (Out prog w s₀ g₀ env sc M gl ρ N B R) noE s := by
    intro e hs he hc
    rw [exec_Assign_Name_used x p v pos hs, he]
    refine wpAny_bind (wpAny_standAt (wpAny_bind (wpAny_bind (wpAny_mono (hc (fun _ s' => Out prog w s₀ g₀ env sc M gl ρ N B R .next s') (cend_use (P := N) (N := N) fe f hx' hi (fun d hd => hd.2) fun g' σ' s' f' hn => ⟨g', μ, own, σ', f', hn⟩)) (fun _ s' h => wpAny_pure ?_) fun _ _ x => x))))
    exact wpAny_pure h
  cases v with
  | ListComp elt gs csc cp =>
    have hs : ∃ b, swapsWith (.ListComp elt gs csc cp) (some (.Name x p)) pos.line env = pure b := ⟨_, rfl⟩
    obtain ⟨b, hs⟩ := hs
    cases b with
    | false => exact plain hs
    | true =>
      have hlc : cLC (cE n) sc elt gs csc = some ie := hv
      have h0 := hlc
      unfold cLC at hlc
      split at hlc
      · cases hlc
      · split at hlc
        · exact used hs rfl fun Q hE => comp1_run hr' Rm fe.frm.fit (f.at fe S) h0 hw hE
        · exact used hs rfl fun Q hE => comp2_run hr' Rm fe.frm.fit (f.at fe S) h0 hw hE
        · cases hlc
  | DictComp kx vx gs csc cp =>
    have hs : ∃ b, swapsWith (.DictComp kx vx gs csc cp) (some (.Name x p)) pos.line env = pure b := ⟨_, rfl⟩
    obtain ⟨b, hs⟩ := hs
    cases b with
    | false => exact plain hs
    | true =>
      have hlc : cDC (cE n) sc kx vx gs csc = some ie := hv
      have h0 := hlc
      unfold cDC at hlc
      split at hlc
      · cases hlc
      · split at hlc
        · exact used hs rfl fun Q hE => dcomp_run hr' Rm fe.frm.fit (f.at fe S) h0 hw hE
        · cases hlc
  | SetComp elt gs csc cp => cases hv
  | _ => exact plain rfl

theorem new_snd {x : Str} {p pos lp : Pos} {i : Nat} {es : List Expr} {ds : List PV} (hx : cStore sc x = some i) (hd : cItems es = some ds) (hlen : ds.length < 1000) : SndX prog w mg mb tab call k sc (.Assign [.Name x p] (.List es lp) pos) (.new i ds) := by
  refine ⟨fun {A env s₀ g₀ gl ρ g μ M own σ s} Rm fe S f N B R hw => ?_⟩
  obtain ⟨hx', hi⟩ := store_of hx
  refine wpAny_Assign_Name (wpAny_List (disp_run es ds hd f.dyn.step.gin fun vs g' s' st rv hl => ⟨sizeLine_le (by omega), ?_⟩)) rfl
  exact (f.on st).storeNew fe hx' hi rv fun μ' own' h' tk f' => ⟨g', μ', own', _, f', hw⟩

theorem augV_snd (hr : SndR prog w mg mb tab call k r) {x : Str} {p pos : Pos} {i : Nat} {v : Expr} {ie : IE} (hx : cStore sc x = some i) (hv : r sc v = some ie) : SndX prog w mg mb tab call k sc (.AugAssign (.Name x p) .Add v pos) (.augV i ie) := by
  refine ⟨fun {A env s₀ g₀ gl ρ g μ M own σ s} Rm fe S f N B R hw => ?_⟩
  obtain ⟨hx', hi⟩ := store_of hx
  have hw' : (match σ i with
    | some o => W tab call ie σ fun d => binW .add o d fun r => r.fz ∧ (match r with | .list _ => False | _ => True) ∧ N (upd σ i r)
    | Option.none => False) := hw
  cases hσ : σ i with
  | none => rw [hσ] at hw'; exact hw'.elim
  | some o =>
    rw [hσ] at hw'
    obtain ⟨u, hu, ru⟩ := (f.at fe S).var x i o hi hσ
    refine wpAny_AugAssign_Name (load_var fe hu hi ((hr _ _ _ hv).1.go Rm fe S f hw' fun g' v' d s' st f' rv hd => ?_))
    refine wpAny_mono (iadd_ok f'.dyn.step.gin (ru.on st) rv hd) (fun v'' s'' h => ?_) fun _ _ x => x
    obtain ⟨d', hs', rd, hn⟩ := h
    have f'' : FInv prog w s₀ g₀ env sc M gl ρ g' μ own σ s'' := f'.on (hs' ▸ .of f'.dyn.step.gin .tok)
    exact f''.store fe hx' hi rd fun a h' tk _ _ f₃ => ⟨g', μ, own, _, f₃, hn⟩

theorem noslice_aug {i : Expr} (h : notSlice i = true) (ov iv new : Value) : augStore i ov iv new = (do holding [new, ov, iv] (setItem ov iv new); release [new, ov, iv] []; pure .next) := by
  cases i <;> first | rfl | exact no_tt h

theorem setI_snd (hr : SndR prog w mg mb tab call k r) {x : Str} {p pos sp : Pos} {j : Nat} {ix v : Expr} {ii ie : IE} (hx : cVar sc x = some j) (hi : r sc ix = some ii) (hv : r sc v = some ie) (hsw : ∀ env, swapsWith v (some (.Subscript (.Name x p) ix sp)) pos.line env = pure false) :
    SndX prog w mg mb tab call k sc (.Assign [.Subscript (.Name x p) ix sp] v pos) (.setI j ii ie) := by
  refine ⟨fun {A env s₀ g₀ gl ρ g μ M own σ s} Rm fe S f N B R hw => ?_⟩
  have hid := var_of hx
  refine wpAny_Assign_Subscript ((hr _ _ _ hv).1.go Rm fe S f hw fun g₁ v₁ d₁ s₁ st₁ f₁ r₁ w₁ => ?_) (hsw env)
  cases hσ : σ j with
  | none => rw [hσ] at w₁; exact w₁.elim
  | some d =>
    rw [hσ] at w₁
    cases d with
    | cur ds =>
      obtain ⟨a, vs, n, hva, ho, hm, hr', hg⟩ := f₁.cur hid hσ
      refine eval_var fe hva hid ((hr _ _ _ hi).1.go Rm fe S f₁ w₁ fun g₂ v₂ d₂ s₂ st₂ f₂ r₂ w₂ => ?_)
      cases d₂ with
      | int m =>
        obtain ⟨fz, h0, hlt, hl, hn⟩ := w₂
        obtain ⟨t, rfl⟩ := r₂.isInt
        have hlen := hr'.length
        refine set_exact (f₂.min _ _ hm) h0 (by omega) (by omega) fun h' n' he hs => ?_
        exact ⟨g₂, _, own, _, f₂.turn fe ho hm hs he ((hr'.up st₂.le).set ((r₁.on st₂).frz fz) _) ⟨x, hid, hva.keeps st₂.keep.ext⟩, hn⟩
      | _ => exact w₂.elim
    | _ => exact w₁.elim

theorem augI_snd (hr : SndR prog w mg mb tab call k r) {x : Str} {p pos sp : Pos} {j : Nat} {ix v : Expr} {ii ie : IE} (hx : cVar sc x = some j) (hns : notSlice ix = true) (hi : r sc ix = some ii) (hv : r sc v = some ie) :
    SndX prog w mg mb tab call k sc (.AugAssign (.Subscript (.Name x p) ix sp) .Add v pos) (.augI j ii ie) := by
  refine ⟨fun {A env s₀ g₀ gl ρ g μ M own σ s} Rm fe S f N B R hw => ?_⟩
  have hid := var_of hx
  have hw' : (match σ j with
    | some (.cur ds) => W tab call ii σ fun k => match k with
      | .int j' => 0 ≤ j' ∧ ds.length < 1000 ∧ match ds[j'.toNat]? with
        | some (.int u) => W tab call ie σ fun d => match d with | .int v => N (upd σ j (.cur (ds.set j'.toNat (.int (u + v))))) | _ => False
        | _ => False
      | _ => False
    | _ => False) := hw
  cases hσ : σ j with
  | none => rw [hσ] at hw'; exact hw'.elim
  | some d =>
    rw [hσ] at hw'
    cases d with
    | cur ds =>
      obtain ⟨a, vs, n, hva, ho, hm, hr', hg⟩ := f.cur hid hσ
      refine wpAny_AugAssign_Subscript_any (eval_var fe hva hid ((hr _ _ _ hi).1.go Rm fe S f hw' fun g₁ v₁ d₁ s₁ st₁ f₁ r₁ w₁ => ?_)) (noslice_aug hns)
      cases d₁ with
      | int m =>
        obtain ⟨h0, hl, hu⟩ := w₁
        obtain ⟨t, rfl⟩ := r₁.isInt
        cases hq : ds[m.toNat]? with
        | none => rw [hq] at hu; exact hu.elim
        | some u =>
          rw [hq] at hu
          cases u with
          | int u =>
            have hlen := hr'.length
            have hlt : m.toNat < ds.length := (List.getElem?_eq_some_iff.mp hq).1
            obtain ⟨uv, huv, ruv⟩ := (hr'.up st₁.le).get hq
            obtain ⟨ut, rfl⟩ := ruv.isInt
            refine wpAny_getItem_list (isList_of (f₁.min _ _ hm)) h0 (by omega) (by simpa using huv) ((hr _ _ _ hv).1.go Rm fe S f₁ hu fun g₂ v₂ d₂ s₂ st₂ f₂ r₂ w₂ => ?_)
            cases d₂ with
            | int vv =>
              obtain ⟨vt, rfl⟩ := r₂.isInt
              refine PySem.P.iadd_int ?_
              have f₃ := f₂.on (s' := { s₂ with toks := s₂.toks + 1 }) (.of f₂.dyn.step.gin .tok)
              refine set_exact (s := { s₂ with toks := s₂.toks + 1 }) (f₃.min _ _ hm) h0 (by omega) (by omega) fun h' n' he hs => ?_
              exact ⟨g₂, _, own, _, f₃.turn fe ho hm hs he (((hr'.up st₁.le).up st₂.le).set (.int _ _) _) ⟨x, hid, (hva.keeps st₁.keep.ext).keeps st₂.keep.ext⟩, w₂⟩
            | _ => exact w₂.elim
          | _ => exact hu.elim
      | _ => exact w₁.elim
    | _ => exact hw'.elim

theorem app_snd (hr : SndR prog w mg mb tab call k r) (hn : NoS r) {x m : Str} {p ap cp pos : Pos} {j : Nat} {e : Expr} {ie : IE} (hm : (m == ("append" : Str)) = true) (hl : (ap.endLine == cp.line) = true) (hx : cVar sc x = some j) (he : r sc e = some ie) :
    SndX prog w mg mb tab call k sc (.Expr (.Call (.Attribute (.Name x p) m ap) [e] [] cp) pos) (.app j ie) := by
  refine ⟨fun {A env s₀ g₀ gl ρ g μ M own σ s} Rm fe S f N B R hw => ?_⟩
  have hid := var_of hx
  obtain rfl : m = Str.ofString "append" := by simpa using hm
  have hw' : (match σ j with
    | some (.cur ds) => W tab call ie σ fun d => d.fz ∧ ds.length < 1000 ∧ N (upd σ j (.cur (ds ++ [d])))
    | _ => False) := hw
  cases hσ : σ j with
  | none => rw [hσ] at hw'; exact hw'.elim
  | some d =>
    rw [hσ] at hw'
    cases d with
    | cur ds =>
      obtain ⟨a, vs, n, hva, ho, hm, hr', hg⟩ := f.cur hid hσ
      refine wpAny_Expr ?_ fe.inter rfl
      refine wpAny_Call_method1_late rfl hl (by rw [starEach_cons (hn _ _ _ he)]; rfl) (eval_var fe hva hid ?_)
      refine ⟨"list", "list.append", PySem.F.plainAttrs_list, slot_list_append, type_list_append, (isList_of hg).typeIs, fun b q => by cases q; exact ⟨_, hg, rfl⟩, Calls.callWith_builtin rfl (Calls.evalArgs_plain (Calls.spliced_cons ?_))⟩
      refine (hr _ _ _ he).1.go Rm fe S f hw' fun g₁ v₁ d₁ s₁ st₁ f₁ r₁ w₁ => Calls.spliced_nil ?_
      obtain ⟨fz, hlen, hN⟩ := w₁
      have hl' := hr'.length
      have hsz : vs.toArray.size ≤ sizeLine := sizeLine_le (by rw [List.size_toArray]; omega)
      refine wpAny_list_append_plain (hsz := hsz) ⟨n, f₁.min _ _ hm⟩ fun h' hpl hs => ?_
      obtain ⟨n', he'⟩ := hpl
      have ep : vs.toArray.push v₁ = (vs ++ [v₁]).toArray := by simp
      rw [ep] at he'
      exact ⟨g₁, _, own, _, f₁.turn fe ho hm hs he' ((hr'.up st₁.le).append (.one (r₁.frz fz))) ⟨x, hid, hva.keeps st₁.keep.ext⟩, hN⟩
    | _ => exact hw'.elim

theorem ite_sndX (hr : SndR prog w mg mb tab call k r) {t : Expr} {b o : List Stmt} {pos : Pos} {it : IE} {ib io : IS} (ht : r sc t = some it) (hb : SndS prog w mg mb tab call k sc b ib) (ho : SndS prog w mg mb tab call k sc o io) :
    SndX prog w mg mb tab call k sc (.If t b o pos) (.ite it ib io) := by
  refine ⟨fun {A env s₀ g₀ gl ρ g μ M own σ s} Rm fe S f N B R hw => wpAny_If ((hr _ _ _ ht).2.go Rm fe S f hw fun g' c s' f' hc => ?_)⟩
  cases c with
  | true => exact hb.ok Rm fe S f' N B R hc
  | false => exact ho.ok Rm fe S f' N B R hc
theorem ret_snd (hr : SndR prog w mg mb tab call k r) {e : Expr} {pos : Pos} {ie : IE} (he : r sc e = some ie) : SndX prog w mg mb tab call k sc (.Return (some e) pos) (.ret ie) := by
  refine ⟨fun {A env s₀ g₀ gl ρ g μ M own σ s} Rm fe S f N B R hw => wpAny_Return_some ((hr _ _ _ he).1.go Rm fe S f hw fun g₁ v₁ d₁ s₁ st₁ f₁ r₁ w₁ => ?_)⟩
  cases r₁ with
  | fr h =>
    refine ⟨g₁, d₁, f₁.dyn.step, h, ?_⟩
    cases d₁ with
    | cur ds => cases h
    | _ => exact w₁
  | cur hm hr' =>
    rename_i a vs n ds
    obtain ⟨n0, ng, nM⟩ := f₁.mnew a _ hm
    have le : g₁.le (g₁.add a ({ cls := .type "list", data := .seq vs.toArray n } : Obj)) := Zone.le_add ng
    refine ⟨_, .list ds, ⟨f₁.dyn.step.le.trans le, fun b o e => ?_, fun b o e => ?_, f₁.dyn.step.keep⟩, .list Zone.add_self (hr'.up le), w₁⟩
    · unfold Zone.add at e
      by_cases q : b = a
      · exact .inr (q ▸ n0)
      · rw [if_neg q] at e; exact f₁.dyn.step.fresh b o e
    · unfold Zone.add at e
      by_cases q : b = a
      · rw [if_pos q] at e; cases e; rw [q]; exact f₁.min _ _ hm
      · rw [if_neg q] at e; exact f₁.dyn.step.gin b o e
theorem brk_snd {pos : Pos} : SndX prog w mg mb tab call k sc (.Break pos) .brk :=
  ⟨fun {A env s₀ g₀ gl ρ g μ M own σ s} Rm fe S f N B R hw => wpAny_Break ⟨g, μ, own, σ, f, hw⟩⟩
theorem stuck_snd {st : Stmt} : SndX prog w mg mb tab call k sc st .stuck := ⟨fun {A env s₀ g₀ gl ρ g μ M own σ s} Rm fe S f N B R hw => (show False from hw).elim⟩
end
end Cut20
namespace Cut20

section
variable {prog : Program} {w : World} {mg mb : Str → Option Value} {tab : Str → Option Int} {call : Nat → List PV → Cb → Prop} {k : Nat} {A : Around} {s₀ s s' : Shared} {g₀ g g' μ gl ρ : Zone} {env : Env} {sc : Scope} {M : Addr → Prop} {own : Nat → Option Addr} {σ σ' : Sg} {r : Rec} {R : Result → Shared → Prop}

theorem fbind_ok {te : Expr} {t : Tgt} {v : Value} {d : PV} {Q : Unit → Shared → Prop} (hh : A.handled = none) (fe : FEnv env sc M) (f : FInv prog w s₀ g₀ env sc M gl ρ g μ own σ s) (ht : cTgt (ownName sc) te = some t) (hd : Rep prog w g v d)
    (hb : bindT t d σ = some σ') (hq : ∀ h' tk, FInv prog w s₀ g₀ env sc M gl ρ g μ own σ' { s with heap := h', toks := tk } → Q () { s with heap := h', toks := tk }) :
    wpAny (model prog w) A (assign te env v) Q noE s := by
  rcases cTgt_of ht with ⟨x, p, i, rfl, hx, hi, rfl⟩ | ⟨x, px, y, py, kk, pp, i, j, rfl, hx, hy, hxy, hi, hj, rfl⟩
  · obtain rfl := Option.some.inj (show some (upd σ i d) = some σ' from hb)
    exact wpAny_assign_Name (f.store fe (own_of hx) hi hd fun a h' tk _ _ f' => hq h' tk f')
  · obtain ⟨p, q, rfl, rfl⟩ := bindT_two hb
    obtain ⟨a, vs, n, rfl, hg, r, e⟩ := hd.isTup
    cases r with
    | cons h1 r =>
      cases r with
      | cons h2 r =>
        cases r
        rename_i v1 v2
        refine assign_Tuple_tuple hh (isTup_of (f.dyn.step.gin _ _ hg)) rfl rfl fun h₁ he => ?_
        have ext : Ext s.heap h₁ := fun b o e => he b o (Nat.ne_of_lt (Heap.lt_size e)) e
        have st : Step g s g { s with heap := h₁ } := .of f.dyn.step.gin ⟨h₁, s.toks, rfl, ext⟩
        refine assignInOrder_cons (wpAny_assign_Name ((f.on st).store fe (own_of hx) hi h1 fun a₂ h₂ tk₂ _ _ f₂ => ?_))
        exact assignInOrder_cons (wpAny_assign_Name (f₂.store fe (own_of hy) hj h2 fun a₃ h₃ tk₃ _ _ f₃ => assignInOrder_nil (hq h₃ tk₃ f₃)))

theorem for_loop {te : Expr} {body : List Stmt} {it : Value} (I : Nat → Shared → Prop)
    (turn : ∀ n s, I n s → wpAny (model prog w) A (pyNext it) (fun r s₁ => match r with
      | none => R (.ok .next) s₁
      | some v => wpAny (model prog w) A (letOwnedTupleGo te it v) (fun _ s₁' => wpAny (model prog w) A (assign te env v) (fun _ s₂ => wpAny (model prog w) A (execs body env) (fun f s₃ => match f with
          | .next | .cont => ∃ m, m < n ∧ I m s₃
          | .brk => R (.ok .next) s₃
          | .ret v => R (.ok (.ret v)) s₃) noE s₂) noE s₁') noE s₁) noE s)
    (n : Nat) (h : I n s) : codeAny (model prog w) A (.forLoop te it body [] env) R s := by
  refine codeAny_loop' rfl I (fun n s hI => ?_) n h
  show wpAny _ _ ((forTurn te it body [] env).onRaise (fun x => do noteFrame x env; theTreesLotGoes x)) _ _ s
  refine wpAny_noted ?_
  simp only [forTurn]
  refine wpAny_bind (wpAny_standAt (wpAny_bind (wpAny_onRaise (wpAny_mono (turn n s hI) (fun r s₁ h₁ => ?_) fun _ _ h' => h'.elim))))
  cases r with
  | none => exact wpAny_pure (.inr ⟨rfl, codeAny_block (wpAny_execs_nil h₁)⟩)
  | some v =>
    refine wpAny_bind (wpAny_mono h₁ (fun _ s₁' h₁' => wpAny_bind (wpAny_mono h₁' (fun _ s₂ h₂ => wpAny_bind (wpAny_mono h₂ (fun f s₃ h₃ => ?_) fun _ _ h' => h'.elim)) fun _ _ h' => h'.elim)) fun _ _ h' => h'.elim)
    cases f with
    | next => exact wpAny_pure (.inl ⟨rfl, h₃⟩)
    | cont => exact wpAny_pure (.inl ⟨rfl, h₃⟩)
    | brk => exact wpAny_pure h₃
    | ret v => exact wpAny_pure h₃

noncomputable def stepF (tab : Str → Option Int) (call : Nat → List PV → Cb → Prop) (t : Tgt) (body : IS) (N : Sg → Prop) (R : Cb) (d : PV) (K : Sg → Prop) (τ : Sg) : Prop :=
  match bindT t d τ with
  | some τ' => WS tab call body τ' K N R
  | Option.none => False
theorem stepF_some {t : Tgt} {body : IS} {N : Sg → Prop} {R : Cb} {d : PV} {K : Sg → Prop} {τ τ' : Sg} (h : bindT t d τ = some τ') : stepF tab call t body N R d K τ = WS tab call body τ' K N R := by unfold stepF; rw [h]
theorem stepF_none {t : Tgt} {body : IS} {N : Sg → Prop} {R : Cb} {d : PV} {K : Sg → Prop} {τ : Sg} (h : bindT t d τ = none) : stepF tab call t body N R d K τ = False := by unfold stepF; rw [h]

theorem loop_snd (hr : SndR prog w mg mb tab call k r) {te it : Expr} {body : List Stmt} {pos : Pos} {t : Tgt} {ii : IE} {ib : IS} (hns : notSet it = true) (ht : cTgt (ownName sc) te = some t) (hi : r sc it = some ii) (hb : SndS prog w mg mb tab call k sc body ib) :
    SndX prog w mg mb tab call k sc (.For te it body [] pos) (.loop t ii ib) := by
  refine ⟨fun {A env s₀ g₀ gl ρ g μ M own σ s} Rm fe S f N B R hw => wpAny_For ((hr _ _ _ hi).1.go Rm fe S f hw fun g₁ v d s₁ st₁ f₁ rv hd => ?_) (fold_of hns env)⟩
  obtain ⟨fz, hd⟩ := hd
  cases hds : d.items with
  | none => rw [hds] at hd; exact hd.elim
  | some ds =>
    rw [hds] at hd
    obtain ⟨hlen, hf⟩ := hd
    have hf' : ds.foldr (stepF tab call t ib N R) N σ := hf
    clear hf
    refine iter_ok (μ := Zone.nil) Rm.handled f₁.dyn.step.gin (fun _ _ e => by cases e) (.fr (rv.frz fz)) hds fun I St h₂ ext hI src st => ?_
    have f₂ := f₁.on (s' := { s₁ with heap := h₂ }) (.of f₁.dyn.step.gin ⟨h₂, s₁.toks, rfl, ext⟩)
    have n0 := none_of_keep f₁.dyn.step.keep.ext hI
    have nM : ¬ M I := fun h => by obtain ⟨o, e⟩ := f₁.dyn.here _ h; rw [hI] at e; cases e
    have nρ : ρ I = none := Zone.none_of f₁.rin hI
    obtain ⟨oI, hoI⟩ := src.here 0 h₂ st
    have f₃ := f₂.guard n0 (Zone.none_of f₁.dyn.step.gin hI) nM (Zone.none_of f₁.min hI) hoI (gl' := g₁) (Zone.le.refl _)
    have aw := fe.awayM nM
    have unl : ∀ o, ρ.le (ρ.add I o) := fun o => Zone.le_add nρ
    have stf : ∀ {j : Nat} {o : Obj} {h : Heap} {g μ : Zone} {own : Nat → Option Addr} {σ : Sg} {s' : Shared}, h.get? I = some o → g₁.In h → FInv prog w s₀ g₀ env sc M g₁ (ρ.add I o) g μ own σ s' → St j h → St j s'.heap := by
      intro j o h g μ own σ s' ho hg ff sj
      refine src.frame j h s'.heap sj fun b x hb e => ?_
      rcases hb with rfl | ⟨o', hb⟩ | ⟨o', hb⟩
      · rw [ho] at e; cases e
        exact ff.rin _ _ Zone.add_self
      · rw [hg _ _ hb] at e; cases e
        exact ff.dyn.step.gin _ _ (ff.low _ _ hb)
      · cases hb
    have loopc : codeAny (model prog w) A (.forLoop te (.ref I) body [] env) (fun r s' => ∃ f, r = .ok f ∧ Out prog w s₀ g₀ env sc M gl ρ N B R f s') { s₁ with heap := h₂ } := by
      refine for_loop (fun n s => ∃ i g μ own σ o, n = ds.length + 1 - i ∧ i ≤ ds.length ∧ FInv prog w s₀ g₀ env sc M g₁ (ρ.add I o) g μ own σ s ∧ St i s.heap ∧ (ds.drop i).foldr (stepF tab call t ib N R) N σ) ?_ (ds.length + 1)
        ⟨0, g₁, μ, own, σ, oI, rfl, Nat.zero_le _, f₃, st, by simpa using hf'⟩
      rintro n s ⟨i, g, μ, own, σ, o, rfl, hi', ff, sti, hfo⟩
      rcases Nat.lt_or_ge i ds.length with hlt | hge
      · rw [List.drop_eq_getElem_cons hlt, List.foldr_cons] at hfo
        cases hbt : bindT t ds[i] σ with
        | none => rw [stepF_none hbt] at hfo; exact hfo.elim
        | some σ' =>
          rw [stepF_some hbt] at hfo
          refine src.item i s _ _ hlt sti fun v d h₄ tk₄ hd rd st₄ k₄ => ?_
          rw [List.getElem?_eq_getElem hlt] at hd
          cases hd
          obtain ⟨o', ho'⟩ := src.here _ _ st₄
          have ff₄ := ff.move (tk := tk₄) fe aw k₄ ho'
          refine src.go _ _ _ _ _ _ st₄ ?_
          refine fbind_ok Rm.handled fe ff₄ ht (rd.up ff.low) hbt fun h₅ tk₅ ff₅ => ?_
          have g₁in : g₁.In h₄ := fun b x e => ff₄.dyn.step.gin _ _ (ff.low _ _ e)
          have st₅ : St (i + 1) h₅ := stf ho' g₁in ff₅ st₄
          refine wpAny_mono (hb.ok Rm fe S ff₅ (fun τ => (ds.drop (i + 1)).foldr (stepF tab call t ib N R) N τ) N R hfo) (fun f s₆ h₆ => ?_) fun _ _ x => x
          cases f with
          | next =>
            obtain ⟨g₆, μ₆, own₆, σ₆, ff₆, hN⟩ := h₆
            exact ⟨ds.length + 1 - (i + 1), by omega, i + 1, g₆, μ₆, own₆, σ₆, o', rfl, hlt, ff₆, stf (ff₅.rin _ _ Zone.add_self) (fun b x e => ff₅.dyn.step.gin _ _ (ff.low _ _ e)) ff₆ st₅, hN⟩
          | brk =>
            obtain ⟨g₆, μ₆, own₆, σ₆, ff₆, hN⟩ := h₆
            exact ⟨_, rfl, g₆, μ₆, own₆, σ₆, ff₆.unguard (unl _) (f₁.low), hN⟩
          | ret v => exact ⟨_, rfl, h₆⟩
          | cont => exact h₆.elim
      · have hin : i = ds.length := by omega
        subst hin
        refine src.done s _ _ sti fun h₄ tk₄ k₄ => ?_
        rw [List.drop_length] at hfo
        obtain ⟨_, ng, _, nμ⟩ := ff.rout I o Zone.add_self
        exact ⟨_, rfl, g, μ, own, σ, (ff.unguard (unl _) f₁.low).other (tk := tk₄) fe nM ng n0 nμ nρ k₄, hfo⟩
    exact codeAny_mono loopc fun r s' ⟨f, hr, h⟩ => by subst hr; exact h

theorem whl_snd (hr : SndR prog w mg mb tab call k r) {c : Expr} {body : List Stmt} {pos : Pos} {ic : IE} {ib : IS} (hc : r sc c = some ic) (hb : SndS prog w mg mb tab call k sc body ib) : SndX prog w mg mb tab call k sc (.While c body [] pos) (.whl ic ib) := by
  refine ⟨fun {A env s₀ g₀ gl ρ g μ M own σ s} Rm fe S f N B R hw => wpAny_While ?_⟩
  obtain ⟨n, hw⟩ := hw
  have loopc : codeAny (model prog w) A (.whileLoop c body [] env) (fun r s' => ∃ f, r = .ok f ∧ Out prog w s₀ g₀ env sc M gl ρ N B R f s') s := by
    refine codeAny_whileLoop (fun n s => ∃ g μ own σ, FInv prog w s₀ g₀ env sc M gl ρ g μ own σ s ∧ Nat.rec (motive := fun _ => Sg → Prop) (fun _ => False)
      (fun _ K τ => W tab call ic τ fun x => truth x fun t => if t then WS tab call ib τ K N R else N τ) n σ) ?_ n ⟨g, μ, own, σ, f, hw⟩
    rintro n s ⟨g, μ, own, σ, ff, hw⟩
    cases n with
    | zero => exact hw.elim
    | succ n =>
      refine wpAny_mono ((hr _ _ _ hc).2.go Rm fe S ff hw fun g' b s' f' hb' => ?_) (fun _ _ x => x) fun _ _ x => x.elim
      cases b with
      | true =>
        rw [if_pos rfl]
        refine wpAny_mono (hb.ok Rm fe S f' _ N R hb') (fun f s₃ h₃ => ?_) fun _ _ x => x.elim
        cases f with
        | next => obtain ⟨g₃, μ₃, own₃, σ₃, f₃, hN⟩ := h₃; exact ⟨n, Nat.lt_succ_self _, g₃, μ₃, own₃, σ₃, f₃, hN⟩
        | brk => obtain ⟨g₃, μ₃, own₃, σ₃, f₃, hN⟩ := h₃; exact ⟨_, rfl, g₃, μ₃, own₃, σ₃, f₃, hN⟩
        | ret v => exact ⟨_, rfl, h₃⟩
        | cont => exact h₃.elim
      | false =>
        rw [if_neg (by simp)]
        exact wpAny_execs_nil ⟨_, rfl, g', μ, own, σ, f', hb'⟩
  exact codeAny_mono loopc fun r s' ⟨f, hr, h⟩ => by subst hr; exact h
end
end Cut20
namespace Cut20

section
variable {prog : Program} {w : World} {mg mb : Str → Option Value} {tab : Str → Option Int} {call : Nat → List PV → Cb → Prop} {k : Nat} {sc : Scope}

theorem seq_snd {st : Stmt} {rest : List Stmt} {ia ib : IS} (ha : SndX prog w mg mb tab call k sc st ia) (hb : SndS prog w mg mb tab call k sc rest ib) : SndS prog w mg mb tab call k sc (st :: rest) (.seq ia ib) := by
  refine ⟨fun {A env s₀ g₀ gl ρ g μ M own σ s} Rm fe S f N B R hw => wpAny_execs_cons (wpAny_mono (ha.ok Rm fe S f (fun τ => WS tab call ib τ N B R) B R hw) (fun fl s' h => ?_) fun _ _ x => x)⟩
  cases fl with
  | next => obtain ⟨g', μ', own', σ', f', hN⟩ := h; exact hb.ok Rm fe S f' N B R hN
  | brk => exact h
  | ret v => exact h
  | cont => exact h.elim

theorem stmt_snd (hc : CallOk prog w mg mb tab call k) (m : Nat) {bl : List Stmt → Option IS} (hbl : ∀ sts is, bl sts = some is → SndS prog w mg mb tab call k sc sts is) {st : Stmt} {is : IS} (h : cStmt (cE m) sc bl st = some is) : SndX prog w mg mb tab call k sc st is := by
  have hr := cE_snd hc m
  have hn : NoS (cE m) := fun _ _ _ h => noStar_of m h
  cases st with
  | Assign ts v pos =>
    cases ts with
    | nil => exact no_some h
    | cons t ts =>
      cases ts with
      | cons _ _ => cases t with
        | Name _ _ => exact no_some h
        | Subscript o _ _ => cases o with
          | _ => exact no_some h
        | _ => exact no_some h
      | nil =>
        cases t with
        | Name x p =>
          obtain ⟨i, hx, h⟩ := Option.bind_eq_some_iff.mp h
          split at h
          · split at h
            · rename_i hl
              simp only [Option.map_eq_some_iff] at h
              obtain ⟨ds, hd, rfl⟩ := h
              exact new_snd hx hd (by rw [disp_len _ _ hd]; omega)
            · cases h
          · simp only [Option.map_eq_some_iff] at h
            obtain ⟨ie, hv, rfl⟩ := h
            exact asg_snd hc hx hv
        | Subscript o ix sp =>
          cases o with
          | Name x p =>
            have h : (if notSlice ix then (do some (IS.setI (← cVar sc x) (← cE m sc ix) (← cE m sc v)) : Option IS) else none) = some is := h
            split at h
            · simp only [Option.bind_eq_bind, Option.bind_eq_some_iff, Option.some.injEq] at h
              obtain ⟨j, hx, ii, hi, ie, hv, rfl⟩ := h
              exact setI_snd hr hx hi hv fun env => by cases v <;> rfl
            · cases h
          | _ => exact no_some h
        | _ => exact no_some h
  | AugAssign t op v pos =>
    cases t with
    | Name x p =>
      cases op with
      | Add =>
        have h : (do some (IS.augV (← cStore sc x) (← cE m sc v)) : Option IS) = some is := h
        simp only [Option.bind_eq_bind, Option.bind_eq_some_iff, Option.some.injEq] at h
        obtain ⟨i, hx, ie, hv, rfl⟩ := h
        exact augV_snd hr hx hv
      | _ => exact no_some h
    | Subscript o ix sp =>
      cases o with
      | Name x p =>
        cases op with
        | Add =>
          have h : (if notSlice ix then (do some (IS.augI (← cVar sc x) (← cE m sc ix) (← cE m sc v)) : Option IS) else none) = some is := h
          split at h
          · rename_i hns
            simp only [Option.bind_eq_bind, Option.bind_eq_some_iff, Option.some.injEq] at h
            obtain ⟨j, hx, ii, hi, ie, hv, rfl⟩ := h
            exact augI_snd hr hx hns hi hv
          · cases h
        | _ => exact no_some h
      | _ => exact no_some h
    | _ => exact no_some h
  | Expr e pos =>
    cases e with
    | Call f as ks p =>
      cases f with
      | Attribute o mm ap =>
        cases o with
        | Name x p0 =>
          cases as with
          | nil => exact no_some h
          | cons e as =>
            cases as with
            | cons _ _ => exact no_some h
            | nil =>
              cases ks with
              | cons _ _ => exact no_some h
              | nil =>
                have h : (if mm == ("append" : Str) && ap.endLine == p.line then (do some (IS.app (← cVar sc x) (← cE m sc e)) : Option IS) else none) = some is := h
                split at h
                · rename_i hc'
                  simp only [Bool.and_eq_true] at hc'
                  simp only [Option.bind_eq_bind, Option.bind_eq_some_iff, Option.some.injEq] at h
                  obtain ⟨j, hx, ie, he, rfl⟩ := h
                  exact app_snd hr hn hc'.1 hc'.2 hx he
                · cases h
        | _ => exact no_some h
      | _ => exact no_some h
    | _ => exact no_some h
  | If t b o pos =>
    have h : (do some (IS.ite (← cE m sc t) (← bl b) (← bl o)) : Option IS) = some is := h
    simp only [Option.bind_eq_bind, Option.bind_eq_some_iff, Option.some.injEq] at h
    obtain ⟨it, ht, ib, hb, io, ho, rfl⟩ := h
    exact ite_sndX hr ht (hbl _ _ hb) (hbl _ _ ho)
  | For t it b o pos =>
    cases o with
    | cons _ _ => exact no_some h
    | nil =>
      have h : (if !notSet it then none else (do some (IS.loop (← cTgt (ownName sc) t) (← cE m sc it) (← bl b)) : Option IS)) = some is := h
      split at h
      · cases h
      · rename_i hns
        simp only [Option.bind_eq_bind, Option.bind_eq_some_iff, Option.some.injEq] at h
        obtain ⟨t, ht, ii, hi, ib, hb, rfl⟩ := h
        exact loop_snd hr (by simpa using hns) ht hi (hbl _ _ hb)
  | While t b o pos =>
    cases o with
    | cons _ _ => exact no_some h
    | nil =>
      have h : (do some (IS.whl (← cE m sc t) (← bl b)) : Option IS) = some is := h
      simp only [Option.bind_eq_bind, Option.bind_eq_some_iff, Option.some.injEq] at h
      obtain ⟨ic, hc', ib, hb, rfl⟩ := h
      exact whl_snd hr hc' (hbl _ _ hb)
  | Return e pos =>
    cases e with
    | none => exact no_some h
    | some e =>
      have h : (do some (IS.ret (← cE m sc e)) : Option IS) = some is := h
      simp only [Option.bind_eq_bind, Option.bind_eq_some_iff, Option.some.injEq] at h
      obtain ⟨ie, he, rfl⟩ := h
      exact ret_snd hr he
  | Break pos => cases h; exact brk_snd
  | Raise _ _ _ => cases h; exact stuck_snd
  | _ => exact no_some h

theorem cS_snd (hc : CallOk prog w mg mb tab call k) (m : Nat) : ∀ (n : Nat) (sts : List Stmt) (is : IS), cS (cE m) sc n sts = some is → SndS prog w mg mb tab call k sc sts is
  | 0, _, _, h => by cases h
  | n + 1, [], is, h => by
    cases h
    exact ⟨fun {A env s₀ g₀ gl ρ g μ M own σ s} Rm fe S f N B R hw => wpAny_execs_nil ⟨g, μ, own, σ, f, hw⟩⟩
  | n + 1, st :: rest, is, h => by
    simp only [cS, Option.bind_eq_bind, Option.bind_eq_some_iff, Option.some.injEq] at h
    obtain ⟨ia, ha, ib, hb, rfl⟩ := h
    exact seq_snd (stmt_snd hc m (fun sts is h => cS_snd hc m n sts is h) ha) (cS_snd hc m n rest ib hb)
end
end Cut20
namespace Cut20

/-! Calls of the text's own functions. -/
noncomputable def bindP (ps : List Nat) (ds : List PV) : Sg := fun i => (ps.zip ds).lookup i
noncomputable def CallW (prog : Program) (tab : Str → Option Int) : Nat → Nat → List PV → Cb → Prop
  | 0, _, _, _ => False
  | k + 1, i, ds, Q => ∃ f ps is, fid f = some i ∧ compiled prog f = some (ps, is) ∧ ps.length = ds.length ∧ WS tab (CallW prog tab k) is (bindP ps ds) (fun _ => False) (fun _ => False) Q

/-- what a function's text must be -/
structure FnGood (f : Str) (params : Arguments) (body : List Stmt) (sc : Scope) : Prop where
  bind : ∀ pm cd doc vs, vs.length = params.args.length → bindArgs (Calls.docDef f params body sc pm cd doc) ⟨vs, []⟩ = pure ((params.args.map (·.arg)).zip vs)
  kind : sc.kind = .function
  co : sc.isCoroutine = false
  gen : sc.isGenerator = false
  names : ∀ p ∈ sc.names, sc.names.lookup p.1 = some p.2
  nofree : ∀ p ∈ sc.names, p.2 ≠ .free
  par : ∀ x ∈ params.args, sc.names.lookup x.arg = some .local ∨ sc.names.lookup x.arg = some .cell
  nodup : (params.args.map (·.arg)).Nodup

theorem bindL_not (kd : Str → Option NameKind) : ∀ (b : List (Str × Value)) (m : Str → Option Value) (n : Str), n ∉ b.map (·.1) → bindL kd b m n = m n
  | [], _, _, _ => rfl
  | (x, v) :: r, m, n, h => by
    simp only [List.map_cons, List.mem_cons, not_or] at h
    unfold bindL
    rw [bindL_not kd r _ n h.2]
    split
    · exact if_neg h.1
    · rfl
theorem bindL_mem (kd : Str → Option NameKind) : ∀ (b : List (Str × Value)) (m : Str → Option Value) (n : Str) (v : Value), (b.map (·.1)).Nodup → (n, v) ∈ b → kd n = some .local → bindL kd b m n = some v
  | (x, u) :: r, m, n, v, hd, h, hk => by
    simp only [List.map_cons, List.nodup_cons] at hd
    unfold bindL
    rcases List.mem_cons.mp h with h | h
    · cases h
      rw [bindL_not kd r _ _ hd.1, if_pos hk]
      exact if_pos rfl
    · exact bindL_mem kd r _ n v hd.2 h hk
theorem bindC_not (kd : Str → Option NameKind) : ∀ (b : List (Str × Value)) (m : Str → Option Value) (n : Str), n ∉ b.map (·.1) → bindC kd b m n = m n
  | [], _, _, _ => rfl
  | (x, v) :: r, m, n, h => by
    simp only [List.map_cons, List.mem_cons, not_or] at h
    unfold bindC
    rw [bindC_not kd r _ n h.2]
    split
    · rfl
    · exact if_neg h.1
theorem bindC_mem (kd : Str → Option NameKind) : ∀ (b : List (Str × Value)) (m : Str → Option Value) (n : Str) (v : Value), (b.map (·.1)).Nodup → (n, v) ∈ b → kd n ≠ some .local → bindC kd b m n = some v
  | (x, u) :: r, m, n, v, hd, h, hk => by
    simp only [List.map_cons, List.nodup_cons] at hd
    unfold bindC
    rcases List.mem_cons.mp h with h | h
    · cases h
      rw [bindC_not kd r _ _ hd.1, if_neg hk]
      exact if_pos rfl
    · exact bindC_mem kd r _ n v hd.2 h hk

theorem lookup_zip : ∀ {ps : List Nat} {ds : List PV} {i : Nat} {d : PV}, (ps.zip ds).lookup i = some d → ∃ j : Nat, ps[j]? = some i ∧ ds[j]? = some d
  | [], _, _, _, h => by simp at h
  | _ :: _, [], _, _, h => by simp at h
  | p :: ps, e :: ds, i, d, h => by
    rw [List.zip_cons_cons, List.lookup_cons] at h
    cases hb : i == p with
    | true => rw [hb] at h; cases h; exact ⟨0, by rw [beq_iff_eq.mp hb]; rfl, rfl⟩
    | false => rw [hb] at h; obtain ⟨j, a, b⟩ := lookup_zip h; exact ⟨j + 1, a, b⟩
theorem params_get : ∀ {as : List Arg} {ps : List Nat}, as.mapM (fun x => vid x.arg) = some ps → ps.length = as.length ∧ ∀ (j i : Nat), ps[j]? = some i → ∃ x, as[j]? = some x ∧ vid x.arg = some i
  | [], ps, h => by
    simp at h; subst h
    exact ⟨rfl, fun j i h => by simp at h⟩
  | a :: as, ps, h => by
    simp only [List.mapM_cons, Option.bind_eq_bind, Option.bind_eq_some_iff, Option.pure_def, Option.some.injEq] at h
    obtain ⟨p, hp, qs, hq, rfl⟩ := h
    obtain ⟨h1, h2⟩ := params_get hq
    refine ⟨by simp [h1], fun j i hj => ?_⟩
    cases j with
    | zero => simp at hj; subst hj; exact ⟨a, rfl, hp⟩
    | succ j => exact h2 j i (by simpa using hj)

section
variable {prog : Program} {w : World} {mg mb : Str → Option Value} {tab : Str → Option Int}

theorem call_ok (good : ∀ f i params body sc, fid f = some i → defOf prog f = some (params, body, sc) → FnGood f params body sc) : ∀ k, CallOk prog w mg mb tab (CallW prog tab k) k
  | 0 => fun f i fv hf hm A g s vs ds D _ _ _ _ h => by exact (show False from h).elim
  | k + 1 => by
    intro f i fv hf hm A g s vs ds D Rm gi S hr h
    obtain ⟨f', ps, is, hf', hc, hl, hw⟩ := h
    have ef : f' = f := by
      unfold fid at hf hf'
      rw [List.findIdx?_eq_some_iff_getElem] at hf hf'
      obtain ⟨h1, e1, _⟩ := hf
      obtain ⟨h2, e2, _⟩ := hf'
      have a : fnames[i] = f := by simpa using e1
      have b : fnames[i] = f' := by simpa using e2
      rw [← a, ← b]
    subst ef
    obtain ⟨a, o, params, body, sc, pm, cd, doc, hm', ho, hd, hcd, hdef⟩ := S.fns f' i hf
    rw [hm] at hm'
    cases hm'
    have G := good f' i params body sc hf hdef
    unfold compiled at hc
    rw [hdef] at hc
    simp only [Option.bind_some, Option.bind_eq_bind, Option.bind_eq_some_iff, Option.some.injEq, Prod.mk.injEq] at hc
    obtain ⟨ps', hps, is', his, rfl, rfl⟩ := hc
    obtain ⟨hpl, hpg⟩ := params_get (show params.args.mapM (fun x => vid x.arg) = some ps' from hps)
    have hvl : vs.length = params.args.length := by rw [hr.length, ← hl, hpl]
    let L := s.heap.objs.size
    have cells_ok : ∀ n, (n, NameKind.cell) ∈ sc.names → ∃ c, (cellsFrom (L + 1) sc.names []).lookup n = some c := fun n hn => by
      obtain ⟨c, hc⟩ := cellsFrom_has sc.names (L + 1) n hn
      exact lookup_has hc
    refine wpAny_call (codeAny_call_cells (fd := Calls.docDef f' params body sc pm cd doc) (by have := Rm.depth; omega) ho hd S.nolimit hcd rfl (G.bind pm cd doc vs hvl) rfl (fun x hx => ?_) (fun s₁ X => ?_) G.co G.gen G.kind)
    · have hx1 : x.1 ∈ params.args.map (·.arg) := (List.of_mem_zip hx).1
      obtain ⟨y, hy, e⟩ := List.mem_map.mp hx1
      rcases G.par y hy with h | h
      · exact .inl (e ▸ h)
      · refine .inr ⟨e ▸ h, ?_⟩
        obtain ⟨c, hc⟩ := cells_ok x.1 (mem_of_lookup (e ▸ h))
        exact Option.isSome_iff_exists.mpr ⟨c, hc⟩
    · obtain ⟨h₁, tk, hs₁, ext⟩ := X.done
      let env := callEnvC (Calls.docDef f' params body sc pm cd doc) s.heap.objs.size a
      let M : Addr → Prop := fun b => b = s.heap.objs.size ∨ ∃ n, (cellsFrom (s.heap.objs.size + 1) sc.names []).lookup n = some b
      have hkind : ∀ x, env.kindOf x = sc.names.lookup x := fun _ => rfl
      have nofree : ∀ x, sc.names.lookup x ≠ some .free := fun x hx => G.nofree _ (mem_of_lookup hx) rfl
      have above : ∀ n c, (cellsFrom (s.heap.objs.size + 1) sc.names []).lookup n = some c → s.heap.objs.size < c := fun n c hc => X.above n c (mem_of_lookup hc)
      have fe : FEnv env sc M :=
        { frm := { fit := { kind := G.kind, glob := rfl, blt := rfl, loc := fun _ h => h, gl := fun _ h => h, cel := fun _ h => h, fre := fun x h => absurd h (nofree x),
                            hasCell := fun x h => h.elim (fun h => cells_ok x (mem_of_lookup h)) fun h => absurd h (nofree x) },
                   L := .inl rfl, own := fun x c _ hc => .inr ⟨x, hc⟩, apart := fun x c _ hc => Nat.ne_of_gt (above x c hc),
                   inj := fun x y c hx hxy hc hy hyc => hxy (name_of_addr X.apart (mem_of_lookup hc) (mem_of_lookup hyc)) },
          kind := hkind, nofree := nofree, inter := by
            show (sc.kind == .module && _) = false
            rw [G.kind]; rfl }
      have st : Step g s g s₁ := .of gi ⟨h₁, tk, hs₁, ext⟩
      have new : ∀ b, M b → s.heap.get? b = none := fun b hb => by
        rcases hb with rfl | ⟨n, hn⟩
        · exact get?_size _
        · exact Heap.get?_none_of_le (Nat.le_of_lt (above n b hn))
      have f₀ : FInv prog w s g env sc M g Zone.nil g Zone.nil (fun _ => none) (bindP ps' ds) s₁ :=
        { dyn := ⟨st, new, fun b hb => Zone.none_of gi (new b hb), fun b hb => by
              rcases hb with rfl | ⟨n, hn⟩
              · obtain ⟨o', _, _, e, _⟩ := X.toInCall.ns; exact ⟨o', e⟩
              · obtain ⟨o', e, _⟩ := X.cell n b hn; exact ⟨o', e⟩, ⟨_, X.toInCall.ns⟩, fun x hx => by
              obtain ⟨c, hc⟩ := cells_ok x (mem_of_lookup hx)
              exact ⟨c, _, hc, X.cell x c hc⟩⟩
          low := Zone.le.refl _, rin := fun _ _ e => (by cases e), rout := fun _ _ e => (by cases e), min := fun _ _ e => (by cases e), mnew := fun _ _ e => (by cases e), oinj := fun _ _ _ e => (by cases e), oin := fun _ _ e => (by cases e),
          vars := fun x i' d hi hd => by
            obtain ⟨j, hj, hdj⟩ := lookup_zip hd
            obtain ⟨y, hy, hyi⟩ := hpg j i' hj
            obtain rfl := vid_inj hi hyi
            obtain ⟨v, hv, rv⟩ := hr.get hdj
            have hmem : (y.arg, v) ∈ (params.args.map (·.arg)).zip vs := by
              refine List.mem_of_getElem? (i := j) ?_
              rw [List.getElem?_zip_eq_some]
              exact ⟨by rw [List.getElem?_map, hy]; rfl, hv⟩
            have hnd : (((params.args.map (·.arg)).zip vs).map (·.1)).Nodup := by
              rw [List.map_fst_zip (by simp [hvl])]; exact G.nodup
            refine ⟨v, ?_, .inl (rv.up st.le)⟩
            rcases G.par y (List.mem_of_getElem? hy) with h | h
            · exact .inl ⟨h, _, X.toInCall.ns, bindL_mem _ _ _ _ _ hnd hmem h⟩
            · obtain ⟨c, hc⟩ := cells_ok y.arg (mem_of_lookup h)
              have hcell := X.cell y.arg c hc
              rw [bindC_mem _ _ _ _ v hnd hmem (by show sc.names.lookup y.arg ≠ _; rw [h]; simp)] at hcell
              exact .inr ⟨.inl h, c, hc, hcell⟩ }
      have Rm' : Room k (A.deeper env) := ⟨Rm.handled, by show A.depth + 1 + k < _; have := Rm.depth; omega, by show A.units + 3 + 5 * k + 200 < _; have := Rm.units; omega⟩
      refine wpAny_mono ((cS_snd (call_ok good k) 20 20 body is' his).ok Rm' fe S f₀ _ _ D hw) (fun fl s' hfl => ?_) fun _ _ x => x.elim
      cases fl with
      | ret v => exact hfl
      | next => obtain ⟨_, _, _, _, _, hN⟩ := hfl; exact hN.elim
      | brk => obtain ⟨_, _, _, _, _, hN⟩ := hfl; exact hN.elim
      | cont => exact hfl.elim
end
end Cut20
namespace Cut20

/-! The law's texts in the small language, as printed from the compiler. -/
noncomputable def isLaw : List Nat × IS := ([0], (.seq 
  (.asg 1 (.call1 1 (.var 0))) (.seq 
  (.asg 3 (.call1 2 (.var 1))) (.seq 
  (.asg 9 (.comp2 (.tup2 (.var 10) (.var 11)) (.one 10) (.range1 (.int 5)) (.one 11) (.range2 (.bin .add (.var 10) (.int 1)) (.int 6)) false IE.none [])) (.seq 
  (.asg 7 (.comp (.tup2 (.var 10) (.var 11)) (.two 10 11) (.var 9) true (.inTab (.slice (.var 3) (.var 10) (.var 11))) [3])) (.seq 
  (.ite (.cmp .ne (.var 7) (.comp (.tup2 (.var 10) (.var 11)) (.two 10 11) (.var 9) true (.call1 3 (.slice (.var 3) (.var 10) (.var 11))) [3])) (.seq 
  (.ret (.bool false)) .nop) .nop) (.seq 
  (.asg 13 (.comp (.call4 4 (.var 3) (.var 7) (.var 2) (.bin .add (.int 1) (.bin .mod (.bin .fdiv (.idx (.var 1) (.var 2)) (.int 384)) (.int 58)))) (.one 2) (.range1 (.int 5)) false IE.none [7, 1, 3])) (.seq 
  (.asg 29 (.comp (.split (.call1 8 (.bin .add (.bin .add (.str (Str.ofString "257 \"")) (.join (.str (Str.ofString "\"\"")) (.var 31))) (.str (Str.ofString "\" from the least on")))) (.str (Str.ofString "\""))) (.one 31) (.var 13) false IE.none [])) (.seq 
  (.ite (.cmp .ne (.var 29) (.var 13)) (.seq 
  (.ret (.bool false)) .nop) .nop) (.seq 
  (.asg 30 (.comp (.call3 5 (.var 3) (.var 29) (.var 14)) (.one 14) (.range1 (.int 5)) false IE.none [29, 3])) (.seq 
  (.ret (.cmp .eq (.comp (.var 28) (.one 28) (.range1 (.int 5)) true (.and (.cmp .notin (.idx (.var 30) (.var 28)) (.sliceTo (.var 30) (.var 28))) (.call4 6 (.var 3) (.var 13) (.var 7) (.idx (.var 30) (.var 28)))) [7, 30, 13, 3]) IE.nil)) .nop)))))))))))
noncomputable def isDrawn : List Nat × IS := ([0], (.seq 
  (.new 1 [(PV.int 0), (PV.int 1152), (PV.int 5382), (PV.int 6), (PV.int 3)]) (.seq 
  (.loop (.one 2) (.range1 (.min2 (.len (.var 0)) (.int 20))) (.seq 
  (.augI 1 (.bin .mod (.var 2) (.int 5)) (.bin .mod (.idx (.var 0) (.var 2)) (.int 1000000))) .nop)) (.seq 
  (.ret (.var 1)) .nop))))
noncomputable def isRow : List Nat × IS := ([1], (.seq 
  (.asg 3 (.str (Str.ofString ""))) (.seq 
  (.asg 4 (.str (Str.ofString "*"))) (.seq 
  (.loop (.one 5) (.var 1) (.seq 
  (.ite (.cmp .gt (.bin .mod (.var 5) (.int 16)) (.int 10)) (.seq 
  (.asg 4 (.idx (.str (Str.ofString "!%&()*+,-./:;<=>\x40[]^{|}~")) (.bin .mod (.bin .fdiv (.var 5) (.int 16)) (.int 24)))) .nop) (.seq 
  (.ite (.cmp .gt (.bin .mod (.var 5) (.int 16)) (.int 5)) (.seq 
  (.asg 4 (.str (Str.ofString "="))) .nop) .nop) .nop)) (.seq 
  (.augV 3 (.var 4)) .nop))) (.seq 
  (.ret (.var 3)) .nop)))))
noncomputable def isSpells : List Nat × IS := ([6], (.seq 
  (.ite (.cmp .eq (.len (.var 6)) (.int 1)) (.seq 
  (.ret (.bool true)) .nop) .nop) (.seq 
  (.ite (.cmp .eq (.len (.var 6)) (.int 2)) (.seq 
  (.ret (.or (.cmp .isin (.var 6) (.texts [(Str.ofString "->"), (Str.ofString "**"), (Str.ofString "//"), (Str.ofString "<<"), (Str.ofString ">>")])) (.and (.cmp .eq (.idx (.var 6) (.int 1)) (.str (Str.ofString "="))) (.cmp .isin (.idx (.var 6) (.int 0)) (.str (Str.ofString "!%&*+-/:<=>@^|")))))) .nop) .nop) (.seq 
  (.ret (.cmp .isin (.var 6) (.texts [(Str.ofString "**="), (Str.ofString "//="), (Str.ofString "<<="), (Str.ofString ">>="), (Str.ofString "...")]))) .nop))))
noncomputable def isLikes : List Nat × IS := ([3, 7, 2, 8], (.seq 
  (.new 9 []) (.seq 
  (.loop (.two 10 11) (.var 7) (.seq 
  (.ite (.and (.chain (.var 10) (.var 2) (.var 11)) (.cmp .notin (.slice (.var 3) (.var 10) (.var 11)) (.var 9))) (.seq 
  (.app 9 (.slice (.var 3) (.var 10) (.var 11))) .nop) .nop) .nop)) (.seq 
  (.ret (.comp (.idx (.var 12) (.int 1)) (.one 12) (.sorted (.comp (.tup2 (.bin .mod (.bin .mul (.tabAt (.var 6)) (.var 8)) (.int 59)) (.var 6)) (.one 6) (.var 9) false IE.none [8])) false IE.none [])) .nop))))
noncomputable def isCut : List Nat × IS := ([3, 13, 14], (.seq 
  (.asg 15 (.bin .add (.bin .add (.listOf (.range1 (.var 14))) (.listOf (.range3 (.int 4) (.var 14) (.int (-1))))) (.list1 (.var 14)))) (.seq 
  (.new 16 [(PV.int 0), (PV.int 0), (PV.int 0), (PV.int 0), (PV.int 0)]) (.seq 
  (.new 17 [(PV.tup [(PV.int 0), (PV.int 0)]), (PV.tup [(PV.int 0), (PV.int 0)]), (PV.tup [(PV.int 0), (PV.int 0)]), (PV.tup [(PV.int 0), (PV.int 0)]), (PV.tup [(PV.int 0), (PV.int 0)])]) (.seq 
  (.loop (.one 2) (.var 15) (.seq 
  (.asg 18 (.ite (.cmp .le (.var 2) (.var 14)) (.range1 (.bin .add (.var 2) (.int 1))) (.list1 (.var 2)))) (.seq 
  (.asg 19 (.ite (.cmp .ge (.var 2) (.var 14)) (.range2 (.bin .add (.var 2) (.int 1)) (.int 6)) (.list1 (.bin .add (.var 2) (.int 1))))) (.seq 
  (.asg 20 (.comp2 (.tup2 (.var 10) (.var 11)) (.one 10) (.var 18) (.one 11) (.var 19) true (.inTab (.slice (.var 3) (.var 10) (.var 11))) [19, 3])) (.seq 
  (.asg 21 (.comp (.tup2 (.var 10) (.var 11)) (.two 10 11) (.var 20) true (.cmp .eq (.comp (.var 24) (.one 24) (.range2 (.var 10) (.var 11)) true (.and (.cmp .ne (.var 24) (.var 2)) (.cmp .lt (.index (.idx (.var 13) (.var 24)) (.slice (.var 3) (.var 10) (.var 11))) (.idx (.var 16) (.var 24)))) [10, 11, 2, 13, 3, 16]) IE.nil) [2, 13, 3, 16])) (.seq 
  (.asg 22 (.dcomp (.bin .add (.bin .mul (.int 6) (.var 10)) (.var 11)) (.ite (.cmp .isin (.tup2 (.var 10) (.var 11)) (.var 21)) (.bin .pow (.int 10) (.bin .add (.int 3) (.index (.idx (.var 13) (.var 2)) (.slice (.var 3) (.var 10) (.var 11))))) IE.none) (.two 10 11) (.var 20) [21, 2, 13, 3])) (.seq 
  (.setI 16 (.var 2) (.bin .sub (.call1 7 (.var 22)) (.int 4))) (.seq 
  (.setI 17 (.var 2) (.idx (.comp (.tup2 (.var 10) (.var 11)) (.two 10 11) (.var 21) true (.cmp .eq (.index (.idx (.var 13) (.var 2)) (.slice (.var 3) (.var 10) (.var 11))) (.idx (.var 16) (.var 2))) [2, 13, 3, 16]) (.int 0))) .nop)))))))) (.seq 
  (.new 23 []) (.seq 
  (.loop (.one 2) (.rev (.var 15)) (.seq 
  (.ite (.cmp .eq (.comp (.var 10) (.two 10 11) (.var 23) true (.chain (.var 10) (.var 2) (.var 11)) [2]) IE.nil) (.seq 
  (.app 23 (.idx (.var 17) (.var 2))) .nop) .nop) .nop)) (.seq 
  (.ret (.sorted (.var 23))) .nop))))))))
noncomputable def isUpset : List Nat × IS := ([3, 13, 7, 23], (.seq 
  (.new 25 [(PV.int 0), (PV.int 0), (PV.int 0), (PV.int 0), (PV.int 0)]) (.seq 
  (.loop (.two 10 11) (.var 23) (.seq 
  (.loop (.one 2) (.range2 (.var 10) (.var 11)) (.seq 
  (.setI 25 (.var 2) (.index (.idx (.var 13) (.var 2)) (.slice (.var 3) (.var 10) (.var 11)))) .nop)) .nop)) (.seq 
  (.loop (.two 10 11) (.var 7) (.seq 
  (.asg 26 (.comp (.bin .sub (.index (.idx (.var 13) (.var 2)) (.slice (.var 3) (.var 10) (.var 11))) (.idx (.var 25) (.var 2))) (.one 2) (.range2 (.var 10) (.var 11)) false IE.none [10, 11, 13, 3, 25])) (.seq 
  (.asg 22 (.dcomp (.bin .add (.var 10) (.var 28)) (.ite (.cmp .gt (.idx (.var 26) (.var 28)) (.int 0)) (.int 100) (.ite (.cmp .eq (.idx (.var 26) (.var 28)) (.int 0)) (.int 10) IE.none)) (.one 28) (.range1 (.bin .sub (.var 11) (.var 10))) [10, 26])) (.seq 
  (.asg 27 (.len (.comp (.var 5) (.one 5) (.var 26) true (.cmp .lt (.var 5) (.int 0)) []))) (.seq 
  (.ite (.or (.cmp .gt (.min1 (.var 26)) (.int 0)) (.cmp .ne (.call1 7 (.var 22)) (.ite (.cmp .eq (.var 27) (.bin .sub (.var 11) (.var 10))) (.int 0) (.ite (.cmp .gt (.var 27) (.int 0)) (.int 4) (.int 3))))) (.seq 
  (.ret (.bool true)) .nop) .nop) .nop))))) (.seq 
  (.ret (.bool false)) .nop)))))
noncomputable def isWidth : List Nat × IS := ([32], (.seq 
  (.ite (.cmp .isnone (.var 32) IE.none) (.seq 
  (.ret (.int 0)) .nop) .nop) (.seq 
  (.asg 33 (.maxVals (.var 32))) (.seq 
  (.ite (.cmp .eq (.var 33) (.int (-1))) (.seq 
  (.ret (.int 0)) .nop) .nop) (.seq 
  (.asg 34 (.max2 (.int 3) (.len (.strOf (.var 33))))) (.seq 
  (.ite (.and (.cmp .lt (.var 34) (.len .noLine)) (.noneIn (.var 32))) (.seq 
  (.asg 34 (.len .noLine)) .nop) .nop) (.seq 
  (.ret (.var 34)) .nop)))))))
noncomputable def isParse : List Nat × IS := ([35], (.seq 
  (.ite (.cmp .ne (.sliceTo (.var 35) (.int 3)) (.str (Str.ofString "257"))) (.seq .stuck .nop) .nop) (.seq 
  (.ite (.cmp .ne (.slice (.var 35) (.int 3) (.int 5)) (.str (Str.ofString " \""))) (.seq 
  (.ret (.str (Str.ofString ""))) .nop) .nop) (.seq 
  (.asg 36 (.str (Str.ofString ""))) (.seq 
  (.asg 37 (.int 5)) (.seq 
  (.asg 28 (.len (.var 35))) (.seq 
  (.whl (.cmp .lt (.var 37) (.var 28)) (.seq 
  (.asg 38 (.idx (.var 35) (.var 37))) (.seq 
  (.asg 37 (.bin .add (.var 37) (.int 1))) (.seq 
  (.ite (.cmp .eq (.var 38) (.str (Str.ofString "\""))) (.seq 
  (.ite (.or (.cmp .ge (.var 37) (.var 28)) (.cmp .ne (.idx (.var 35) (.var 37)) (.str (Str.ofString "\"")))) (.seq .brk .nop) .nop) (.seq 
  (.asg 37 (.bin .add (.var 37) (.int 1))) .nop)) .nop) (.seq 
  (.asg 36 (.bin .add (.var 36) (.var 38))) .nop))))) (.seq 
  (.ret (.var 36)) .nop))))))))
end Cut20
section
set_option maxHeartbeats 4000000
namespace Cut20
theorem c_isLaw : compiled PySem.Challenge.pw_wj0020_01 (Str.ofString "law") = some isLaw := by kernel_rfl
theorem c_isDrawn : compiled PySem.Challenge.pw_wj0020_01 (Str.ofString "_law_drawn") = some isDrawn := by kernel_rfl
theorem c_isRow : compiled PySem.Challenge.pw_wj0020_01 (Str.ofString "_law_row") = some isRow := by kernel_rfl
theorem c_isSpells : compiled PySem.Challenge.pw_wj0020_01 (Str.ofString "_law_spells") = some isSpells := by kernel_rfl
theorem c_isLikes : compiled PySem.Challenge.pw_wj0020_01 (Str.ofString "_law_likes") = some isLikes := by kernel_rfl
theorem c_isCut : compiled PySem.Challenge.pw_wj0020_01 (Str.ofString "_law_cut") = some isCut := by kernel_rfl
theorem c_isUpset : compiled PySem.Challenge.pw_wj0020_01 (Str.ofString "_law_upset") = some isUpset := by kernel_rfl
theorem c_isWidth : compiled PySem.Challenge.pw_wj0020_01 (Str.ofString "_get_lineno_width") = some isWidth := by kernel_rfl
theorem c_isParse : compiled PySem.Challenge.pw_wj0020_01 (Str.ofString "parse257") = some isParse := by kernel_rfl
end Cut20
end
section
set_option maxHeartbeats 4000000
namespace Cut20
noncomputable def fnCheck (params : Arguments) (sc : Scope) : Bool :=
  (sc.kind == .function) && !sc.isCoroutine && !sc.isGenerator && (sc.names.all fun p => sc.names.lookup p.1 == some p.2 && p.2 != .free) &&
  (params.args.all fun x => sc.names.lookup x.arg == some .local || sc.names.lookup x.arg == some .cell) && decide ((params.args.map (·.arg)).Nodup)
theorem fnGood_of {f : Str} {params : Arguments} {body : List Stmt} {sc : Scope} (h : fnCheck params sc = true)
    (hb : ∀ pm cd doc vs, vs.length = params.args.length → bindArgs (Calls.docDef f params body sc pm cd doc) ⟨vs, []⟩ = pure ((params.args.map (·.arg)).zip vs)) : FnGood f params body sc := by
  unfold fnCheck at h
  simp only [Bool.and_eq_true, beq_iff_eq, Bool.not_eq_true', List.all_eq_true, bne_iff_ne, ne_eq, Bool.or_eq_true, decide_eq_true_eq] at h
  obtain ⟨⟨⟨⟨⟨h1, h2⟩, h3⟩, h4⟩, h5⟩, h6⟩ := h
  exact ⟨hb, h1, h2, h3, fun p hp => (h4 p hp).1, fun p hp => (h4 p hp).2, h5, h6⟩
theorem len0 {vs : List Value} (h : vs.length = 0) : vs = [] := List.eq_nil_of_length_eq_zero h
theorem lenS {vs : List Value} {n : Nat} (h : vs.length = n + 1) : ∃ a r, vs = a :: r ∧ r.length = n := by
  cases vs with
  | nil => exact absurd h (Nat.succ_ne_zero n).symm
  | cons a r => exact ⟨a, r, rfl, Nat.succ.inj h⟩
theorem len1 {vs : List Value} {n : Nat} (h : vs.length = n) (hn : n = 1) : ∃ a, vs = [a] := by
  obtain ⟨a, r, e, h1⟩ := lenS (h.trans hn)
  exact ⟨a, by rw [e, len0 h1]⟩
theorem len3 {vs : List Value} {n : Nat} (h : vs.length = n) (hn : n = 3) : ∃ a b c, vs = [a, b, c] := by
  obtain ⟨a, r, e, h1⟩ := lenS (h.trans hn)
  obtain ⟨b, r, e1, h2⟩ := lenS h1
  obtain ⟨c, r, e2, h3⟩ := lenS h2
  exact ⟨a, b, c, by rw [e, e1, e2, len0 h3]⟩
theorem len4 {vs : List Value} {n : Nat} (h : vs.length = n) (hn : n = 4) : ∃ a b c d, vs = [a, b, c, d] := by
  obtain ⟨a, r, e, h1⟩ := lenS (h.trans hn)
  obtain ⟨b, r, e1, h2⟩ := lenS h1
  obtain ⟨c, r, e2, h3⟩ := lenS h2
  obtain ⟨d, r, e3, h4⟩ := lenS h3
  exact ⟨a, b, c, d, by rw [e, e1, e2, e3, len0 h4]⟩
theorem g_law : ∃ params body sc, defOf PySem.Challenge.pw_wj0020_01 (Str.ofString "law") = some (params, body, sc) ∧ FnGood (Str.ofString "law") params body sc :=
  ⟨_, _, _, rfl, fnGood_of (by decide +kernel) fun pm cd doc vs h => by obtain ⟨a, rfl⟩ := len1 h rfl; rfl⟩
theorem g_drawn : ∃ params body sc, defOf PySem.Challenge.pw_wj0020_01 (Str.ofString "_law_drawn") = some (params, body, sc) ∧ FnGood (Str.ofString "_law_drawn") params body sc :=
  ⟨_, _, _, rfl, fnGood_of (by decide +kernel) fun pm cd doc vs h => by obtain ⟨a, rfl⟩ := len1 h rfl; rfl⟩
theorem g_row : ∃ params body sc, defOf PySem.Challenge.pw_wj0020_01 (Str.ofString "_law_row") = some (params, body, sc) ∧ FnGood (Str.ofString "_law_row") params body sc :=
  ⟨_, _, _, rfl, fnGood_of (by decide +kernel) fun pm cd doc vs h => by obtain ⟨a, rfl⟩ := len1 h rfl; rfl⟩
theorem g_spells : ∃ params body sc, defOf PySem.Challenge.pw_wj0020_01 (Str.ofString "_law_spells") = some (params, body, sc) ∧ FnGood (Str.ofString "_law_spells") params body sc :=
  ⟨_, _, _, rfl, fnGood_of (by decide +kernel) fun pm cd doc vs h => by obtain ⟨a, rfl⟩ := len1 h rfl; rfl⟩
theorem g_likes : ∃ params body sc, defOf PySem.Challenge.pw_wj0020_01 (Str.ofString "_law_likes") = some (params, body, sc) ∧ FnGood (Str.ofString "_law_likes") params body sc :=
  ⟨_, _, _, rfl, fnGood_of (by decide +kernel) fun pm cd doc vs h => by obtain ⟨a, b, c, d, rfl⟩ := len4 h rfl; rfl⟩
theorem g_cut : ∃ params body sc, defOf PySem.Challenge.pw_wj0020_01 (Str.ofString "_law_cut") = some (params, body, sc) ∧ FnGood (Str.ofString "_law_cut") params body sc :=
  ⟨_, _, _, rfl, fnGood_of (by decide +kernel) fun pm cd doc vs h => by obtain ⟨a, b, c, rfl⟩ := len3 h rfl; rfl⟩
theorem g_upset : ∃ params body sc, defOf PySem.Challenge.pw_wj0020_01 (Str.ofString "_law_upset") = some (params, body, sc) ∧ FnGood (Str.ofString "_law_upset") params body sc :=
  ⟨_, _, _, rfl, fnGood_of (by decide +kernel) fun pm cd doc vs h => by obtain ⟨a, b, c, d, rfl⟩ := len4 h rfl; rfl⟩
theorem g_width : ∃ params body sc, defOf PySem.Challenge.pw_wj0020_01 (Str.ofString "_get_lineno_width") = some (params, body, sc) ∧ FnGood (Str.ofString "_get_lineno_width") params body sc :=
  ⟨_, _, _, rfl, fnGood_of (by decide +kernel) fun pm cd doc vs h => by obtain ⟨a, rfl⟩ := len1 h rfl; rfl⟩
theorem g_parse : ∃ params body sc, defOf PySem.Challenge.pw_wj0020_01 (Str.ofString "parse257") = some (params, body, sc) ∧ FnGood (Str.ofString "parse257") params body sc :=
  ⟨_, _, _, rfl, fnGood_of (by decide +kernel) fun pm cd doc vs h => by obtain ⟨a, rfl⟩ := len1 h rfl; rfl⟩
theorem all_good (f : Str) (i : Nat) (params : Arguments) (body : List Stmt) (sc : Scope) (hf : fid f = some i) (hd : defOf PySem.Challenge.pw_wj0020_01 f = some (params, body, sc)) : FnGood f params body sc := by
  have hm := fid_mem hf
  have use : ∀ {f : Str}, (∃ params body sc, defOf PySem.Challenge.pw_wj0020_01 f = some (params, body, sc) ∧ FnGood f params body sc) → defOf PySem.Challenge.pw_wj0020_01 f = some (params, body, sc) → FnGood f params body sc := by
    rintro f ⟨p, b, c, h1, h2⟩ h
    rw [h1] at h
    simp only [Option.some.injEq, Prod.mk.injEq] at h
    obtain ⟨rfl, rfl, rfl⟩ := h
    exact h2
  simp only [fnames, List.map_cons, List.map_nil, List.mem_cons, List.not_mem_nil, or_false] at hm
  rcases hm with rfl | rfl | rfl | rfl | rfl | rfl | rfl | rfl | rfl
  · exact use g_law hd
  · exact use g_drawn hd
  · exact use g_row hd
  · exact use g_spells hd
  · exact use g_likes hd
  · exact use g_cut hd
  · exact use g_upset hd
  · exact use g_width hd
  · exact use g_parse hd
end Cut20
end
namespace Cut20

/-! The head: what stands at the law's call. -/
noncomputable def tabL : List (Str × Int) := ([("!", 54), ("!=", 28), ("%", 24), ("%=", 40), ("&", 19), ("&=", 41), ("(", 7), (")", 8), ("*", 16), ("**", 35), ("**=", 46), ("*=", 38), ("+", 14), ("+=", 36), (",", 12), ("-", 15), ("-=", 37),
  ("->", 51), (".", 23), ("...", 52), ("/", 17), ("//", 47), ("//=", 48), ("/=", 39), (":", 11), (":=", 53), (";", 13), ("<", 20), ("<<", 33), ("<<=", 44), ("<=", 29), ("=", 22), ("==", 27), (">", 21), (">=", 30), (">>", 34),
  (">>=", 45), ("@", 49), ("@=", 50), ("[", 9), ("]", 10), ("^", 32), ("^=", 43), ("{", 25), ("|", 18), ("|=", 42), ("}", 26), ("~", 31)] : List (String × Int)).map fun p => (Str.ofString p.1, p.2)
noncomputable def tabF (x : Str) : Option Int := tabL.lookup x

noncomputable def entOf (e : DictEntry) : Option (Str × Int) := match e.key, e.val with
  | .str x _, .int i _ => some (x, i)
  | _, _ => none
theorem entOf_is {e : DictEntry} {x : Str} {i : Int} (h : entOf e = some (x, i)) : ∃ t u, e.key = .str x t ∧ e.val = .int i u := by
  unfold entOf at h
  split at h
  · rename_i y t j u h1 h2
    simp only [Option.some.injEq, Prod.mk.injEq] at h
    obtain ⟨rfl, rfl⟩ := h
    exact ⟨t, u, h1, h2⟩
  · cases h
theorem tab_of : ∀ {l : List DictEntry} {L : List (Str × Int)}, l.map entOf = L.map some → ∀ x, (L.lookup x = none → findBy Value.isStrOf l.toArray x = none) ∧ ∀ i, L.lookup x = some i → ∃ t, findBy Value.isStrOf l.toArray x = some (.int i t)
  | [], [], _, x => ⟨fun _ => rfl, fun i h => by cases h⟩
  | [], _ :: _, h, _ => by cases h
  | _ :: _, [], h, _ => by cases h
  | e :: l, (y, j) :: L, h, x => by
    simp only [List.map_cons, List.cons.injEq] at h
    obtain ⟨h1, h2⟩ := h
    obtain ⟨t, u, k1, k2⟩ := entOf_is h1
    have ih := tab_of h2 x
    unfold findBy at ih ⊢
    simp only [List.find?_toArray, List.find?_cons] at ih ⊢
    rw [List.lookup_cons]
    have q : Value.isStrOf x e.key = (y == x) := by rw [k1]; rfl
    cases hb : x == y with
    | true =>
      have hc : (y == x) = true := by rw [beq_iff_eq] at hb ⊢; exact hb.symm
      rw [q, hc]
      refine ⟨fun h => (nomatch h), fun i h => ?_⟩
      cases h
      exact ⟨u, by simp [k2]⟩
    | false =>
      have hc : (y == x) = false := by rw [beq_eq_false_iff_ne] at hb ⊢; exact fun e => hb e.symm
      rw [q, hc]
      exact ih

section
variable {p prog : Program} {w : World} {loose : List Str} {mean : ExcName → Option Value} {mg mb : Str → Option Value} {h : Heap} {K : Frag}
theorem fn_at (T : Top p loose mean mg mb h) (f : Str) (e : defOf prog f = ((recsOf p).find? fun d => d.name == f).map fun d => (d.params, d.body, d.scope)) (e2 : (defOf prog f).isSome = true) :
    ∃ a o params body sc pm cd doc, mg f = some (.ref a) ∧ h.get? a = some o ∧ o.data = .func (Calls.docDef f params body sc pm cd doc) ∧ h.CodeRec cd f ∧ defOf prog f = some (params, body, sc) := by
  cases hf : (recsOf p).find? fun d => d.name == f with
  | none => rw [hf] at e; rw [e] at e2; cases e2
  | some d =>
    rw [hf] at e
    have hn : d.name = f := by simpa using List.find?_some hf
    obtain ⟨a, o, pm, cd, doc, h1, h2, h3, h4⟩ := T.fn d (List.mem_of_find?_eq_some hf)
    rw [hn] at h1 h3 h4
    exact ⟨a, o, d.params, d.body, d.scope, pm, cd, doc, h1, h2, h3, h4, e⟩
theorem built_at (T : Top p loose mean mg mb h) (X : K.In h) {x : Str} {v : Value} (e : nsIn K mainGlobals x = some none) (hb : bootBuiltins x = some v) (hn : x ≠ "__name__") : mg x = none ∧ mb x = some v :=
  ⟨mg_none_of X T.g e, (T.builtins x hn).trans hb⟩
theorem tab_at (T : Top p loose mean mg mb h) (X : K.In h) {a : Addr} {es : Array DictEntry} {n : Nat} (e : nsIn K mainGlobals (Str.ofString "EXACT_TOKEN_TYPES") = some (some (.ref a))) (ha : (a == sysModules) = false)
    (hl : K.lookup a = some ⟨.type "dict", none, .dict es n, #[]⟩) (hk : KeysLit w.params es.toList) (ht : es.toList.map entOf = tabL.map some) :
    ∃ a f, mg (Str.ofString "EXACT_TOKEN_TYPES") = some (.ref a) ∧ (a == sysModules) = false ∧ h.MapOf (PySem.strKind prog w) a f ∧ ∀ x, (tabF x = none → f x = none) ∧ ∀ i, tabF x = some i → ∃ t, f x = some (.int i t) :=
  ⟨a, _, mg_of X T.g e, ha, mapOf_K X hl hk, fun x => tab_of (l := es.toList) ht x⟩
end

theorem repInts {prog : Program} {w : World} {g : Zone} {P : Params} {h : Heap} : ∀ {ns : List Int} {vs : List Value}, WellAll P h vs (ofPys (ns.map PyData.int)) → RepAll prog w g vs (ns.map PV.int)
  | [], vs, h => by cases h; exact .nil
  | n :: ns, vs, h => by
    cases h with
    | cons h1 h2 => cases h1 with | int i t => exact .cons (.int n t) (repInts h2)
theorem scriptRep {P : Params} {h : Heap} {a : Addr} {ns : List Int} (x : Well P h (.ref a) (ofPy (.list (ns.map PyData.int)))) :
    ∃ vs n, h.get? a = some ({ cls := .type "list", data := .seq vs.toArray n } : Obj) ∧ ∀ (prog : Program) (w : World) (g : Zone), RepAll prog w g vs (ns.map PV.int) := by
  cases x with
  | list h1 h2 => exact ⟨_, _, h1, fun prog w g => repInts h2⟩

theorem law_end {prog : Program} {w : World} {mg mb : Str → Option Value} {s₁ : Shared} {fa a : Addr} {ns : List Int} {P : Params} {Q E : Value → Shared → Prop}
    (good : ∀ f i params body sc, fid f = some i → defOf prog f = some (params, body, sc) → FnGood f params body sc)
    (S : Stat prog w mg mb tabF s₁.heap) (hm : mg (Str.ofString "law") = some (.ref fa)) (x : Well P s₁.heap (.ref a) (ofPy (.list (ns.map PyData.int))))
    (law : CallW prog tabF 10 0 [.list (ns.map PV.int)] (fun d => d = .bool true)) (hQ : ∀ h' tk, Ext s₁.heap h' → Q (.bool true) { s₁ with heap := h', toks := tk }) :
    wpAny (model prog w) callerA (PySem.call (.ref fa) [.ref a]) Q E s₁ := by
  obtain ⟨vs, n, ho, hr⟩ := scriptRep x
  let g : Zone := fun b => s₁.heap.get? b
  have gi : g.In s₁.heap := fun _ _ e => e
  have rep : RepAll prog w g [.ref a] [.list (ns.map PV.int)] := .cons (.list (n := n) ho (hr prog w g)) .nil
  refine wpAny_mono (call_ok good 10 (Str.ofString "law") 0 (.ref fa) (by decide +kernel) hm (A := callerA) (g := g) ⟨rfl, by decide +kernel, by decide +kernel⟩ gi S rep law) (fun v s' hv => ?_) fun _ _ e => e.elim
  obtain ⟨g', d, st, rp, rfl⟩ := hv
  cases rp
  obtain ⟨h', tk, rfl, ext⟩ := st.keep.is
  exact hQ h' tk ext
end Cut20
namespace Cut20

/-! The plain law: what the small language's texts give. Words first. -/
theorem upd_same (σ : Sg) (x : Nat) (d : PV) : upd σ x d x = some d := if_pos rfl
theorem upd_ne (σ : Sg) {x y : Nat} (d : PV) (h : y ≠ x) : upd σ x d y = σ y := if_neg h

inductive All2 {α β : Type} (P : α → β → Prop) : List α → List β → Prop
  | nil : All2 P [] []
  | cons {a b as bs} : P a b → All2 P as bs → All2 P (a :: as) (b :: bs)

theorem upTo_eq (a : Int) : ∀ n, upTo a n = (List.range n).map fun k : Nat => PV.int (a + (k : Int))
  | 0 => rfl
  | n + 1 => by
    rw [upTo, upTo_eq (a + 1) n, List.range_succ_eq_map]
    simp only [List.map_cons, List.map_map, List.cons.injEq]
    refine ⟨by simp, List.map_congr_left fun k _ => ?_⟩
    show PV.int (a + 1 + (k : Int)) = PV.int (a + ((k + 1 : Nat) : Int))
    congr 1; omega
/-- an int, for a natural number -/
noncomputable def num (n : Nat) : PV := .int n
/-- a block -/
noncomputable def pr (p : Nat × Nat) : PV := .tup [num p.1, num p.2]
theorem upTo_num (a n : Nat) : upTo (a : Int) n = (List.range' a n).map num := by
  rw [upTo_eq, List.range'_eq_map_range, List.map_map]
  refine List.map_congr_left fun k _ => ?_
  show PV.int ((a : Int) + (k : Int)) = PV.int ((a + k : Nat) : Int)
  rw [Int.natCast_add]

section
variable (tab : Str → Option Int) (call : Nat → List PV → Cb → Prop)
/-- e gives d and nothing else -/
noncomputable def Ev (e : IE) (σ : Sg) (d : PV) : Prop := ∀ Q : Cb, Q d → W tab call e σ Q
end
section
variable {tab : Str → Option Int} {call : Nat → List PV → Cb → Prop} {σ : Sg} {a b c e elt cond k v iter : IE} {d x y z : PV} {t : Tgt} {vis : List Nat}
theorem Ev.int {i : Int} : Ev tab call (.int i) σ (.int i) := fun _ q => q
theorem Ev.num {n : Nat} : Ev tab call (.int n) σ (num n) := fun _ q => q
theorem Ev.str {s : Str} : Ev tab call (.str s) σ (.str s) := fun _ q => q
theorem Ev.bool {s : Bool} : Ev tab call (.bool s) σ (.bool s) := fun _ q => q
theorem Ev.none : Ev tab call .none σ .none := fun _ q => q
theorem Ev.var {i : Nat} (h : σ i = some d) : Ev tab call (.var i) σ d := fun Q q => by
  show match σ i with | some d => Q d | Option.none => False
  rw [h]; exact q
theorem Ev.bin {op : BinO} (ha : Ev tab call a σ x) (hb : Ev tab call b σ y) (h : ∀ Q : Cb, Q d → binW op x y Q) : Ev tab call (.bin op a b) σ d := fun Q q => ha _ (hb _ (h _ q))
theorem Ev.add {i j : Int} (ha : Ev tab call a σ (.int i)) (hb : Ev tab call b σ (.int j)) : Ev tab call (.bin .add a b) σ (.int (i + j)) := .bin ha hb fun _ q => q
theorem Ev.sub {i j : Int} (ha : Ev tab call a σ (.int i)) (hb : Ev tab call b σ (.int j)) : Ev tab call (.bin .sub a b) σ (.int (i - j)) := .bin ha hb fun _ q => q
theorem Ev.mul {i j : Int} (ha : Ev tab call a σ (.int i)) (hb : Ev tab call b σ (.int j)) (hi : sml i) (hj : sml j) : Ev tab call (.bin .mul a b) σ (.int (i * j)) := .bin ha hb fun _ q => ⟨hi, hj, q⟩
theorem Ev.fdiv {i j : Int} (ha : Ev tab call a σ (.int i)) (hb : Ev tab call b σ (.int j)) (h0 : j ≠ 0) (h1 : j.natAbs < 1073741824) : Ev tab call (.bin .fdiv a b) σ (.int (i.fdiv j)) := .bin ha hb fun _ q => ⟨h0, h1, q⟩
theorem Ev.mod {i j : Int} (ha : Ev tab call a σ (.int i)) (hb : Ev tab call b σ (.int j)) (h0 : j ≠ 0) : Ev tab call (.bin .mod a b) σ (.int (i.fmod j)) := .bin ha hb fun _ q => ⟨h0, q⟩
theorem Ev.pow10 {i j : Int} (ha : Ev tab call a σ (.int i)) (hb : Ev tab call b σ (.int j)) (h : i = 10) (h0 : 0 ≤ j) (h1 : j ≤ 1000) : Ev tab call (.bin .pow a b) σ (.int (10 ^ j.toNat)) := .bin ha hb fun _ q => ⟨h, h0, h1, q⟩
theorem Ev.cat {s u : Str} (ha : Ev tab call a σ (.str s)) (hb : Ev tab call b σ (.str u)) (h : s.length + u.length ≤ 1000000) : Ev tab call (.bin .add a b) σ (.str (s ++ u)) := .bin ha hb fun _ q => ⟨h, q⟩
theorem Ev.catL {s u : List PV} (ha : Ev tab call a σ (.list s)) (hb : Ev tab call b σ (.list u)) (h : s.length + u.length ≤ 1000000) : Ev tab call (.bin .add a b) σ (.list (s ++ u)) := .bin ha hb fun _ q => ⟨h, q⟩
theorem both_of {p : Prop} {Q : Cb} {t : Bool} (h : t = true ↔ p) (q : Q (.bool t)) : both p Q := by
  cases t with
  | true => exact ⟨fun _ => q, fun n => absurd (h.mp rfl) n⟩
  | false => exact ⟨fun n => by simp at h; exact absurd n h, fun _ => q⟩
theorem Ev.lt {i j : Int} {t : Bool} (ha : Ev tab call a σ (.int i)) (hb : Ev tab call b σ (.int j)) (h : t = true ↔ i < j) : Ev tab call (.cmp .lt a b) σ (.bool t) := fun Q q => ha _ (hb _ (both_of h q))
theorem Ev.le {i j : Int} {t : Bool} (ha : Ev tab call a σ (.int i)) (hb : Ev tab call b σ (.int j)) (h : t = true ↔ i ≤ j) : Ev tab call (.cmp .le a b) σ (.bool t) := fun Q q => ha _ (hb _ (both_of h q))
theorem Ev.gt {i j : Int} {t : Bool} (ha : Ev tab call a σ (.int i)) (hb : Ev tab call b σ (.int j)) (h : t = true ↔ j < i) : Ev tab call (.cmp .gt a b) σ (.bool t) := fun Q q => ha _ (hb _ (both_of h q))
theorem Ev.ge {i j : Int} {t : Bool} (ha : Ev tab call a σ (.int i)) (hb : Ev tab call b σ (.int j)) (h : t = true ↔ j ≤ i) : Ev tab call (.cmp .ge a b) σ (.bool t) := fun Q q => ha _ (hb _ (both_of h q))
theorem Ev.eq {i j : Int} {t : Bool} (ha : Ev tab call a σ (.int i)) (hb : Ev tab call b σ (.int j)) (h : t = true ↔ i = j) : Ev tab call (.cmp .eq a b) σ (.bool t) := fun Q q => ha _ (hb _ (both_of h q))
theorem Ev.ne {i j : Int} {t : Bool} (ha : Ev tab call a σ (.int i)) (hb : Ev tab call b σ (.int j)) (h : t = true ↔ i ≠ j) : Ev tab call (.cmp .ne a b) σ (.bool t) := fun Q q => ha _ (hb _ (both_of h q))
theorem Ev.eqS {i j : Str} {t : Bool} (ha : Ev tab call a σ (.str i)) (hb : Ev tab call b σ (.str j)) (h : t = true ↔ i = j) : Ev tab call (.cmp .eq a b) σ (.bool t) := fun Q q => ha _ (hb _ (both_of h q))
theorem Ev.neS {i j : Str} {t : Bool} (ha : Ev tab call a σ (.str i)) (hb : Ev tab call b σ (.str j)) (h : t = true ↔ i ≠ j) : Ev tab call (.cmp .ne a b) σ (.bool t) := fun Q q => ha _ (hb _ (both_of h q))
theorem Ev.eqL {i j : List PV} {t : Bool} (ha : Ev tab call a σ (.list i)) (hb : Ev tab call b σ (.list j)) (hi : eqOk 8 (.list i) = true) (hj : eqOk 8 (.list j) = true) (h : t = true ↔ PV.list i = PV.list j) : Ev tab call (.cmp .eq a b) σ (.bool t) :=
  fun Q q => ha _ (hb _ ⟨hi, hj, both_of (h.trans (by simp)) q⟩)
theorem Ev.neL {i j : List PV} {t : Bool} (ha : Ev tab call a σ (.list i)) (hb : Ev tab call b σ (.list j)) (hi : eqOk 8 (.list i) = true) (hj : eqOk 8 (.list j) = true) (h : t = true ↔ PV.list i ≠ PV.list j) : Ev tab call (.cmp .ne a b) σ (.bool t) :=
  fun Q q => ha _ (hb _ ⟨hi, hj, both_of (h.trans (by simp)) q⟩)
theorem Ev.and {s t : Bool} (ha : Ev tab call a σ (.bool s)) (hb : s = true → Ev tab call b σ (.bool t)) : Ev tab call (.and a b) σ (.bool (s && t)) := fun Q q => ha _ (by
  cases s with
  | true => exact hb rfl _ q
  | false => exact q)
theorem Ev.or {s t : Bool} (ha : Ev tab call a σ (.bool s)) (hb : s = false → Ev tab call b σ (.bool t)) : Ev tab call (.or a b) σ (.bool (s || t)) := fun Q q => ha _ (by
  cases s with
  | true => exact q
  | false => exact hb rfl _ q)
theorem Ev.ite {s : Bool} (ha : Ev tab call c σ (.bool s)) (h1 : s = true → Ev tab call a σ x) (h2 : s = false → Ev tab call b σ x) : Ev tab call (.ite c a b) σ x := fun Q q => ha _ (by
  cases s with
  | true => exact h1 rfl _ q
  | false => exact h2 rfl _ q)
theorem Ev.chain {i j l : Int} {s : Bool} (ha : Ev tab call a σ (.int i)) (hb : Ev tab call b σ (.int j)) (hc : Ev tab call c σ (.int l)) (h : s = true ↔ i ≤ j ∧ j < l) : Ev tab call (.chain a b c) σ (.bool s) :=
  fun Q q => ha _ (hb _ ⟨fun l1 => hc _ (both_of (h.trans ⟨fun x => x.2, fun x => ⟨l1, x⟩⟩) q), fun l1 => by
    cases s with
    | true => exact absurd (h.mp rfl).1 l1
    | false => exact q⟩)
theorem Ev.lenS {s : Str} (ha : Ev tab call a σ (.str s)) (h : s.length ≤ 1000000) : Ev tab call (.len a) σ (.int s.length) := fun Q q => ha _ ⟨h, q⟩
theorem Ev.lenL {s : List PV} (ha : Ev tab call a σ (.list s)) (h : s.length ≤ 1000000) : Ev tab call (.len a) σ (.int s.length) := fun Q q => ha _ ⟨h, q⟩
theorem Ev.range1 {i : Int} (ha : Ev tab call a σ (.int i)) (h : sml i) : Ev tab call (.range1 a) σ (.rng 0 i 1) := fun Q q => ha _ ⟨h, q⟩
theorem Ev.range2 {i j : Int} (ha : Ev tab call a σ (.int i)) (hb : Ev tab call b σ (.int j)) (h : sml i) (h' : sml j) : Ev tab call (.range2 a b) σ (.rng i j 1) := fun Q q => ha _ (hb _ ⟨h, h', q⟩)
theorem Ev.range3 {i j : Int} (ha : Ev tab call a σ (.int i)) (hb : Ev tab call b σ (.int j)) (hc : Ev tab call c σ (.int (-1))) (h : sml i) (h' : sml j) : Ev tab call (.range3 a b c) σ (.rng i j (-1)) := fun Q q => ha _ (hb _ (hc _ ⟨h, h', rfl, q⟩))
theorem Ev.listOf {i j k : Int} {ds : List PV} (ha : Ev tab call a σ (.rng i j k)) (h : (PV.rng i j k).items = some ds) (hl : ds.length < 1000) : Ev tab call (.listOf a) σ (.list ds) := fun Q q => ha _ (by
  show match (PV.rng i j k).items with | some ds => ds.length < 1000 ∧ Q (.list ds) | Option.none => False
  rw [h]; exact ⟨hl, q⟩)
theorem Ev.min2 {i j : Int} (ha : Ev tab call a σ (.int i)) (hb : Ev tab call b σ (.int j)) : Ev tab call (.min2 a b) σ (.int (if j < i then j else i)) := fun Q q => ha _ (hb _ q)
theorem Ev.max2 {i j : Int} (ha : Ev tab call a σ (.int i)) (hb : Ev tab call b σ (.int j)) : Ev tab call (.max2 a b) σ (.int (if j > i then j else i)) := fun Q q => ha _ (hb _ q)
theorem Ev.strOf {i : Int} (ha : Ev tab call a σ (.int i)) (h0 : 0 ≤ i) (h1 : i < 10 ^ 300) : Ev tab call (.strOf a) σ (.str (Str.ofString (toString i))) := fun Q q => ha _ ⟨h0, h1, q⟩
theorem Ev.noneIn {es : List (Int × PV)} {t : Bool} (ha : Ev tab call a σ (.dict es)) (h1 : es.length < 1000) (h2 : (es.all fun p => valOk p.2) = true) (h : t = true ↔ PV.none ∈ es.map (·.2)) : Ev tab call (.noneIn a) σ (.bool t) :=
  fun Q q => ha _ ⟨h1, h2, both_of h q⟩
theorem Ev.idxL {ds : List PV} {i : Int} (ha : Ev tab call a σ (.list ds)) (hb : Ev tab call b σ (.int i)) (h0 : 0 ≤ i) (h1 : i < 1000000) (h : ds[i.toNat]? = some d) : Ev tab call (.idx a b) σ d := fun Q q => ha _ (hb _ ⟨h0, h1, d, h, q⟩)
theorem Ev.idxC {ds : List PV} {i : Int} (ha : Ev tab call a σ (.cur ds)) (hb : Ev tab call b σ (.int i)) (h0 : 0 ≤ i) (h1 : i < 1000000) (h : ds[i.toNat]? = some d) : Ev tab call (.idx a b) σ d := fun Q q => ha _ (hb _ ⟨h0, h1, d, h, q⟩)
theorem Ev.idxT {ds : List PV} {i : Int} (ha : Ev tab call a σ (.tup ds)) (hb : Ev tab call b σ (.int i)) (h0 : 0 ≤ i) (h1 : i < 1000000) (h : ds[i.toNat]? = some d) : Ev tab call (.idx a b) σ d := fun Q q => ha _ (hb _ ⟨h0, h1, d, h, q⟩)
theorem Ev.idxS {s : Str} {n : Nat} {i : Int} (ha : Ev tab call a σ (.str s)) (hb : Ev tab call b σ (.int i)) (h0 : 0 ≤ i) (h1 : i < 1000000) (h : s.cps[i.toNat]? = some n) : Ev tab call (.idx a b) σ (.str ⟨#[n]⟩) := fun Q q => ha _ (hb _ ⟨h0, h1, n, h, q⟩)
theorem Ev.slice {s : Str} {i j : Int} (ha : Ev tab call a σ (.str s)) (hb : Ev tab call b σ (.int i)) (hc : Ev tab call c σ (.int j)) (h : s.length ≤ 1000000) : Ev tab call (.slice a b c) σ (.str (Txt.slice s (some i) (some j))) := fun Q q => ha _ (hb _ (hc _ ⟨h, q⟩))
theorem Ev.sliceToS {s : Str} {j : Int} (ha : Ev tab call a σ (.str s)) (hb : Ev tab call b σ (.int j)) (h : s.length ≤ 1000000) : Ev tab call (.sliceTo a b) σ (.str (Txt.slice s Option.none (some j))) := fun Q q => ha _ (hb _ ⟨h, q⟩)
theorem Ev.sliceToL {s : List PV} {j : Int} (ha : Ev tab call a σ (.list s)) (hb : Ev tab call b σ (.int j)) (h : s.length ≤ 1000000) (h0 : 0 ≤ j) : Ev tab call (.sliceTo a b) σ (.list (s.take j.toNat)) := fun Q q => ha _ (hb _ ⟨h, h0, q⟩)
theorem Ev.rev {s : List PV} (ha : Ev tab call a σ (.list s)) (h : s.length < 1000000) : Ev tab call (.rev a) σ (.list s.reverse) := fun Q q => ha _ ⟨h, q⟩
theorem Ev.tup2 (ha : Ev tab call a σ x) (hb : Ev tab call b σ y) (hx : x.fz) (hy : y.fz) : Ev tab call (.tup2 a b) σ (.tup [x, y]) := fun Q q => ha _ (hb _ ⟨hx, hy, q⟩)
theorem Ev.list1 (ha : Ev tab call a σ x) (hx : x.fz) : Ev tab call (.list1 a) σ (.list [x]) := fun Q q => ha _ ⟨hx, q⟩
theorem Ev.nil : Ev tab call .nil σ (.list []) := fun _ q => q
theorem Ev.texts {xs : List Str} (h : xs.length < 1000) : Ev tab call (.texts xs) σ (.tup (xs.map .str)) := fun _ q => ⟨h, q⟩
theorem Ev.noLine : Ev tab call .noLine σ (.str "  --") := fun _ q => q
theorem Ev.inTab {s : Str} (ha : Ev tab call a σ (.str s)) : Ev tab call (.inTab a) σ (.bool (tab s).isSome) := fun Q q => ha _ q
theorem Ev.tabAt {s : Str} {i : Int} (ha : Ev tab call a σ (.str s)) (h : tab s = some i) : Ev tab call (.tabAt a) σ (.int i) := fun Q q => ha _ (by
  show match tab s with | some i => Q (.int i) | Option.none => False
  rw [h]; exact q)
theorem Ev.isinS {s u : Str} (ha : Ev tab call a σ (.str s)) (hb : Ev tab call b σ (.str u)) : Ev tab call (.cmp .isin a b) σ (.bool (!(Builtin.Str.occurrences u s 0 u.length 1).isEmpty)) := fun Q q => ha _ (hb _ q)
theorem Ev.isinT {s : Str} {ds : List PV} {t : Bool} (ha : Ev tab call a σ (.str s)) (hb : Ev tab call b σ (.tup ds)) (h1 : PyData.strOk s = true) (h2 : eqOk 8 (.list ds) = true) (h : t = true ↔ PV.str s ∈ ds) : Ev tab call (.cmp .isin a b) σ (.bool t) :=
  fun Q q => ha _ (hb _ ⟨trivial, h1, h2, both_of h q⟩)
theorem Ev.isinTL {ds us : List PV} {t : Bool} (ha : Ev tab call a σ (.tup us)) (hb : Ev tab call b σ (.list ds)) (h1 : eqOk 8 (.tup us) = true) (h2 : eqOk 8 (.list ds) = true) (h : t = true ↔ PV.tup us ∈ ds) : Ev tab call (.cmp .isin a b) σ (.bool t) :=
  fun Q q => ha _ (hb _ ⟨trivial, h1, h2, both_of h q⟩)
theorem Ev.notinSC {s : Str} {ds : List PV} {t : Bool} (ha : Ev tab call a σ (.str s)) (hb : Ev tab call b σ (.cur ds)) (h1 : PyData.strOk s = true) (h2 : eqOk 8 (.list ds) = true) (h : t = true ↔ ¬ PV.str s ∈ ds) : Ev tab call (.cmp .notin a b) σ (.bool t) :=
  fun Q q => ha _ (hb _ ⟨trivial, h1, h2, both_of h q⟩)
theorem Ev.notinLL {ds us : List PV} {t : Bool} (ha : Ev tab call a σ (.list us)) (hb : Ev tab call b σ (.list ds)) (h1 : eqOk 8 (.list us) = true) (h2 : eqOk 8 (.list ds) = true) (h : t = true ↔ ¬ PV.list us ∈ ds) : Ev tab call (.cmp .notin a b) σ (.bool t) :=
  fun Q q => ha _ (hb _ ⟨trivial, h1, h2, both_of h q⟩)

theorem str_inj : Function.Injective PV.str := fun _ _ h => by cases h; rfl
theorem strs_ok {l : List Str} (h : ∀ x ∈ l, PyData.strOk x = true) : eqOk 8 (.list (l.map .str)) = true := by
  unfold eqOk
  rw [List.all_map, List.all_eq_true]
  intro x hx
  show eqOk 7 (.str x) = true
  unfold eqOk
  exact h x hx
theorem idx_first (z : Str) : ∀ (l : List Str) (m : Nat), m < l.idxOf z → l[m]? ≠ some z
  | [], m, h => by simp at h
  | x :: l, m, h => by
    rw [List.idxOf_cons] at h
    cases hx : x == z with
    | true => rw [hx] at h; simp at h
    | false =>
      rw [hx] at h
      cases m with
      | zero => intro e; simp at e; subst e; simp at hx
      | succ m => rw [List.getElem?_cons_succ]; exact idx_first z l m (by simpa using h)
theorem Ev.index {l : List Str} {z : Str} (ha : Ev tab call a σ (.list (l.map .str))) (hb : Ev tab call b σ (.str z)) (h : ∀ x ∈ l, PyData.strOk x = true) (hz : z ∈ l) (hl : l.length < 1000000) : Ev tab call (.index a b) σ (.int (l.idxOf z)) :=
  fun Q q => ha _ ⟨trivial, hb _ ⟨strs_ok h, h z hz, l.idxOf z, by
    rw [List.getElem?_map, List.getElem?_eq_getElem (List.idxOf_lt_length_of_mem hz), List.getElem_idxOf]; rfl, fun m hm e => by
      rw [List.getElem?_map] at e
      cases hg : l[m]? with
      | none => rw [hg] at e; cases e
      | some u =>
        rw [hg] at e
        simp only [Option.map_some, Option.some.injEq, PV.str.injEq] at e
        subst e
        exact idx_first _ l m hm hg, by have := List.idxOf_lt_length_of_mem hz; omega, q⟩⟩
end
end Cut20
namespace Cut20

/-! Comprehensions and loops of the small language. -/
section
variable {tab : Str → Option Int} {call : Nat → List PV → Cb → Prop} {σ : Sg} {a b c e elt cond k v iter iter2 : IE} {d x y z : PV} {t t2 : Tgt} {vis : List Nat}

theorem foldr_flat {α : Type} {step : PV → (List PV → Prop) → List PV → Prop} {fin : List PV → Prop} (enc : α → PV) (F : α → List PV) : ∀ (L : List α) (acc : List PV),
    (∀ p ∈ L, ∀ (K : List PV → Prop) (acc : List PV), K (acc ++ F p) → step (enc p) K acc) → fin (acc ++ L.flatMap F) → (L.map enc).foldr step fin acc
  | [], acc, _, h => by simpa using h
  | p :: L, acc, hs, h => by
    rw [List.map_cons, List.foldr_cons]
    refine hs p (.head _) _ _ (foldr_flat enc F L _ (fun q hq => hs q (.tail _ hq)) ?_)
    rw [List.append_assoc]
    simpa using h
theorem flat_filter {α : Type} (p : α → Bool) (f : α → PV) : ∀ L : List α, (L.flatMap fun q => if p q then [f q] else []) = (L.filter p).map f
  | [] => rfl
  | q :: L => by
    rw [List.flatMap_cons, flat_filter p f L, List.filter_cons]
    cases p q <;> simp
theorem flat_map {α : Type} (f : α → PV) (L : List α) : (L.flatMap fun q => [f q]) = L.map f := by
  induction L with
  | nil => rfl
  | cons q L ih => rw [List.flatMap_cons, ih]; rfl

/-- [f q for q in L if p q] -/
theorem Ev.comp {α : Type} {L : List α} (enc : α → PV) (p : α → Bool) (f : α → PV) (hi : Ev tab call iter σ x) (hx : x.items = some (L.map enc)) (hl : L.length < 1000000)
    (hf : ∀ q ∈ L, ∃ τ, bindT t (enc q) (restr σ vis) = some τ ∧ Ev tab call cond τ (.bool (p q)) ∧ (p q = true → Ev tab call elt τ (f q) ∧ (f q).fz)) :
    Ev tab call (.comp elt t iter true cond vis) σ (.list ((L.filter p).map f)) := fun Q q => hi _ (by
  show match x.items with | some ds => _ | Option.none => False
  rw [hx]
  refine ⟨by simpa using hl, foldr_flat enc (fun q => if p q then [f q] else []) L [] (fun q hq K acc hK => ?_) ?_⟩
  · obtain ⟨τ, h1, h2, h3⟩ := hf q hq
    rw [h1]
    refine h2 _ ?_
    cases hp : p q with
    | false => rw [hp] at hK; exact (List.append_nil acc ▸ hK : K acc)
    | true =>
      rw [hp] at hK
      exact (h3 hp).1 _ ⟨(h3 hp).2, hK⟩
  · rw [flat_filter]; simpa using q)
theorem compM_at {α : Type} {L : List α} (enc : α → PV) (f : α → PV) {Q : Cb} (hx : x.items = some (L.map enc)) (hl : L.length < 1000000)
    (hf : ∀ q ∈ L, ∃ τ, bindT t (enc q) (restr σ vis) = some τ ∧ Ev tab call elt τ (f q) ∧ (f q).fz) (q : Q (.list (L.map f))) :
    match x.items with
    | some ds => ds.length < 1000000 ∧ ds.foldr (fun d K acc => match bindT t d (restr σ vis) with
        | some τ => if false then W tab call cond τ fun b => truth b fun ok => if ok then W tab call elt τ fun e => e.fz ∧ K (acc ++ [e]) else K acc
            else W tab call elt τ fun e => e.fz ∧ K (acc ++ [e])
        | Option.none => False) (fun acc => Q (.list acc)) []
    | Option.none => False := by
  rw [hx]
  refine ⟨by simpa using hl, foldr_flat enc (fun q => [f q]) L [] (fun q hq K acc hK => ?_) ?_⟩
  · obtain ⟨τ, h1, h3⟩ := hf q hq
    rw [h1]
    exact h3.1 _ ⟨h3.2, hK⟩
  · rw [flat_map]; simpa using q
/-- [f q for q in L] -/
theorem Ev.compM {α : Type} {L : List α} (enc : α → PV) (f : α → PV) (hi : Ev tab call iter σ x) (hx : x.items = some (L.map enc)) (hl : L.length < 1000000)
    (hf : ∀ q ∈ L, ∃ τ, bindT t (enc q) (restr σ vis) = some τ ∧ Ev tab call elt τ (f q) ∧ (f q).fz) :
    Ev tab call (.comp elt t iter false cond vis) σ (.list (L.map f)) := fun Q q => hi _ (compM_at (cond := cond) enc f hx hl hf q)
/-- as compM, where an element has several ends -/
theorem W_compR {α : Type} {L : List α} (enc : α → PV) (P : α → PV → Prop) {Q : Cb} (hi : Ev tab call iter σ x) (hx : x.items = some (L.map enc)) (hl : L.length < 1000000)
    (hf : ∀ q ∈ L, ∃ τ, bindT t (enc q) (restr σ vis) = some τ ∧ ∀ R : Cb, (∀ d, P q d → d.fz ∧ R d) → W tab call elt τ R) (hfz : ∀ q d, P q d → d.fz)
    (q : ∀ ds, All2 P L ds → Q (.list ds)) : W tab call (.comp elt t iter false cond vis) σ Q := hi _ (by
  show match x.items with | some ds => _ | Option.none => False
  rw [hx]
  refine ⟨by simpa using hl, ?_⟩
  have main : ∀ (M : List α) (acc : List PV), (∀ q ∈ M, q ∈ L) → (∀ ds, All2 P M ds → Q (.list (acc ++ ds))) → (M.map enc).foldr (fun d K acc => match bindT t d (restr σ vis) with
        | some τ => if false then W tab call cond τ fun b => truth b fun ok => if ok then W tab call elt τ fun e => e.fz ∧ K (acc ++ [e]) else K acc
            else W tab call elt τ fun e => e.fz ∧ K (acc ++ [e])
        | Option.none => False) (fun acc => Q (.list acc)) acc := by
    intro M
    induction M with
    | nil => intro acc _ h; simpa using h [] .nil
    | cons p M ih =>
      intro acc hm h
      rw [List.map_cons, List.foldr_cons]
      obtain ⟨τ, h1, h2⟩ := hf p (hm p (.head _))
      rw [h1]
      refine h2 _ fun d hd => ⟨hfz _ _ hd, hfz _ _ hd, ih _ (fun q hq => hm q (.tail _ hq)) fun ds hds => ?_⟩
      have := h (d :: ds) (.cons hd hds)
      simpa using this
  exact main L [] (fun _ h => h) (by simpa using q))
/-- [f q r for q in L for r in L2 q if p q r] -/
theorem Ev.comp2 {α β : Type} {L : List α} (L2 : α → List β) (enc : α → PV) (enc2 : β → PV) (p : α → β → Bool) (f : α → β → PV) (hi : Ev tab call iter σ x) (hx : x.items = some (L.map enc)) (hl : L.length < 1000)
    (hf : ∀ q ∈ L, ∃ τ x2, bindT t (enc q) (restr σ vis) = some τ ∧ Ev tab call iter2 τ x2 ∧ x2.items = some ((L2 q).map enc2) ∧ (L2 q).length < 1000 ∧
      ∀ r ∈ L2 q, ∃ τ2, bindT t2 (enc2 r) τ = some τ2 ∧ Ev tab call cond τ2 (.bool (p q r)) ∧ (p q r = true → Ev tab call elt τ2 (f q r) ∧ (f q r).fz)) :
    Ev tab call (.comp2 elt t iter t2 iter2 true cond vis) σ (.list (L.flatMap fun q => ((L2 q).filter (p q)).map (f q))) := fun Q q => hi _ (by
  show match x.items with | some ds => _ | Option.none => False
  rw [hx]
  refine ⟨by simpa using hl, foldr_flat enc (fun q => ((L2 q).filter (p q)).map (f q)) L [] (fun q hq K acc hK => ?_) (by simpa using q)⟩
  obtain ⟨τ, x2, h1, h2, h3, h4, h5⟩ := hf q hq
  rw [h1]
  refine h2 _ ?_
  rw [h3]
  refine ⟨by simpa using h4, foldr_flat enc2 (fun r => if p q r then [f q r] else []) (L2 q) acc (fun r hr K acc hK => ?_) ?_⟩
  · obtain ⟨τ2, h1, h2, h3⟩ := h5 r hr
    rw [h1]
    refine h2 _ ?_
    cases hp : p q r with
    | false => rw [hp] at hK; exact (List.append_nil acc ▸ hK : K acc)
    | true =>
      rw [hp] at hK
      exact (h3 hp).1 _ ⟨(h3 hp).2, hK⟩
  · rw [flat_filter]; exact hK)
theorem Ev.comp2M {α β : Type} {L : List α} (L2 : α → List β) (enc : α → PV) (enc2 : β → PV) (f : α → β → PV) (hi : Ev tab call iter σ x) (hx : x.items = some (L.map enc)) (hl : L.length < 1000)
    (hf : ∀ q ∈ L, ∃ τ x2, bindT t (enc q) (restr σ vis) = some τ ∧ Ev tab call iter2 τ x2 ∧ x2.items = some ((L2 q).map enc2) ∧ (L2 q).length < 1000 ∧
      ∀ r ∈ L2 q, ∃ τ2, bindT t2 (enc2 r) τ = some τ2 ∧ Ev tab call elt τ2 (f q r) ∧ (f q r).fz) :
    Ev tab call (.comp2 elt t iter t2 iter2 false cond vis) σ (.list (L.flatMap fun q => (L2 q).map (f q))) := fun Q q => hi _ (by
  show match x.items with | some ds => _ | Option.none => False
  rw [hx]
  refine ⟨by simpa using hl, foldr_flat enc (fun q => (L2 q).map (f q)) L [] (fun q hq K acc hK => ?_) (by simpa using q)⟩
  obtain ⟨τ, x2, h1, h2, h3, h4, h5⟩ := hf q hq
  rw [h1]
  refine h2 _ ?_
  rw [h3]
  refine ⟨by simpa using h4, foldr_flat enc2 (fun r => [f q r]) (L2 q) acc (fun r hr K acc hK => ?_) ?_⟩
  · obtain ⟨τ2, h1, h3⟩ := h5 r hr
    rw [h1]
    exact h3.1 _ ⟨h3.2, hK⟩
  · rw [flat_map]; exact hK)
/-- {key q: val q for q in L} -/
theorem Ev.dcomp {α : Type} {L : List α} (enc : α → PV) (key : α → Int) (val : α → PV) (hi : Ev tab call iter σ x) (hx : x.items = some (L.map enc)) (hl : L.length < 1000000)
    (hf : ∀ q ∈ L, ∃ τ, bindT t (enc q) (restr σ vis) = some τ ∧ Ev tab call k τ (.int (key q)) ∧ Ev tab call v τ (val q) ∧ (val q).fz) (hd : (L.map key).Nodup) :
    Ev tab call (.dcomp k v t iter vis) σ (.dict (L.map fun q => (key q, val q))) := fun Q q => hi _ (by
  show match x.items with | some ds => _ | Option.none => False
  rw [hx]
  refine ⟨by simpa using hl, ?_⟩
  have main : ∀ (M : List α) (acc : List (Int × PV)), (∀ q ∈ M, q ∈ L) → (M.map key).Nodup → (∀ q ∈ M, ∀ p ∈ acc, p.1 ≠ key q) → Q (.dict (acc ++ M.map fun q => (key q, val q))) →
      (M.map enc).foldr (fun d K (acc : List (Int × PV)) => match bindT t d (restr σ vis) with
        | some τ => W tab call k τ fun kd => W tab call v τ fun vd => match kd with
          | .int i => vd.fz ∧ (∀ p ∈ acc, p.1 ≠ i) ∧ K (acc ++ [(i, vd)])
          | _ => False
        | Option.none => False) (fun acc => Q (.dict acc)) acc := by
    intro M
    induction M with
    | nil => intro acc _ _ _ h; simpa using h
    | cons p M ih =>
      intro acc hm hn hk h
      rw [List.map_cons, List.foldr_cons]
      obtain ⟨τ, h1, h2, h3, h4⟩ := hf p (hm p (.head _))
      rw [h1]
      simp only [List.map_cons, List.nodup_cons] at hn
      refine h2 _ (h3 _ ⟨h4, hk p (.head _), ih _ (fun q hq => hm q (.tail _ hq)) hn.2 (fun q hq r hr => ?_) (by simpa using h)⟩)
      rcases List.mem_append.mp hr with hr | hr
      · exact hk q (.tail _ hq) r hr
      · simp at hr; subst hr
        exact fun e => hn.1 ((show key p = key q from e) ▸ List.mem_map_of_mem hq)
  exact main L [] (fun _ h => h) hd (fun _ _ _ h => (by cases h)) (by simpa using q))

/-! Statements. -/
variable {N B : Sg → Prop} {R : Cb} {s s' body : IS}
theorem WS.asg {i : Nat} (h : Ev tab call e σ d) (hd : d.fz) (n : N (upd σ i d)) : WS tab call (.asg i e) σ N B R := h _ ⟨hd, n⟩
theorem WS.seq (h : WS tab call s σ (fun τ => WS tab call s' τ N B R) B R) : WS tab call (.seq s s') σ N B R := h
/-- a loop over L: I holds of what is taken, and the names -/
theorem WS.loop {α : Type} {L : List α} (enc : α → PV) (I : List α → Sg → Prop) (hi : Ev tab call iter σ x) (hf : x.fz) (hx : x.items = some (L.map enc)) (hl : L.length < 1000000)
    (start : I [] σ) (turn : ∀ pre q post τ, L = pre ++ q :: post → I pre τ → ∃ τ', bindT t (enc q) τ = some τ' ∧ ∀ K : Sg → Prop, (∀ τ'', I (pre ++ [q]) τ'' → K τ'') → WS tab call body τ' K N R)
    (fin : ∀ τ, I L τ → N τ) : WS tab call (.loop t iter body) σ N B R := hi _ (by
  show x.fz ∧ match x.items with | some ds => _ | Option.none => False
  rw [hx]
  refine ⟨hf, by simpa using hl, ?_⟩
  have main : ∀ (post pre : List α) (τ : Sg), L = pre ++ post → I pre τ → (post.map enc).foldr (fun d K τ => match bindT t d τ with
        | some τ' => WS tab call body τ' K N R
        | Option.none => False) N τ := by
    intro post
    induction post with
    | nil => intro pre τ e i; exact fin τ (by rw [e, List.append_nil]; exact i)
    | cons q post ih =>
      intro pre τ e i
      rw [List.map_cons, List.foldr_cons]
      obtain ⟨τ', h1, h2⟩ := turn pre q post τ e i
      rw [h1]
      exact h2 _ fun τ'' i' => ih (pre ++ [q]) τ'' (by rw [e]; simp) i'
  exact main L [] σ rfl start)
theorem WS.ite {q : Bool} (h : Ev tab call c σ (.bool q)) (h1 : q = true → WS tab call s σ N B R) (h2 : q = false → WS tab call s' σ N B R) : WS tab call (.ite c s s') σ N B R := h _ (by
  cases q with
  | true => exact h1 rfl
  | false => exact h2 rfl)
theorem WS.ret (h : Ev tab call e σ d) (r : R d.froze) : WS tab call (.ret e) σ N B R := h _ r
theorem WS.setI {i : Nat} {ds : List PV} {j : Int} (h : Ev tab call e σ d) (hs : σ i = some (.cur ds)) (hk : Ev tab call k σ (.int j)) (hd : d.fz) (h0 : 0 ≤ j) (h1 : j < ds.length) (h2 : ds.length < 1000) (n : N (upd σ i (.cur (ds.set j.toNat d)))) :
    WS tab call (.setI i k e) σ N B R := h _ (by
  show match σ i with | some (.cur ds) => _ | _ => False
  rw [hs]
  exact hk _ ⟨hd, h0, h1, h2, n⟩)
theorem WS.augI {i : Nat} {ds : List PV} {j u w : Int} (hs : σ i = some (.cur ds)) (hk : Ev tab call k σ (.int j)) (h0 : 0 ≤ j) (h2 : ds.length < 1000) (hu : ds[j.toNat]? = some (.int u)) (h : Ev tab call e σ (.int w))
    (n : N (upd σ i (.cur (ds.set j.toNat (.int (u + w)))))) : WS tab call (.augI i k e) σ N B R := by
  show match σ i with | some (.cur ds) => _ | _ => False
  rw [hs]
  refine hk _ ⟨h0, h2, ?_⟩
  rw [hu]
  exact h _ n
theorem WS.augS {i : Nat} {u w : Str} (hs : σ i = some (.str u)) (h : Ev tab call e σ (.str w)) (hl : u.length + w.length ≤ 1000000) (n : N (upd σ i (.str (u ++ w)))) : WS tab call (.augV i e) σ N B R := by
  show match σ i with | some o => _ | Option.none => False
  rw [hs]
  exact h _ ⟨hl, trivial, trivial, n⟩
theorem WS.app {i : Nat} {ds : List PV} (hs : σ i = some (.cur ds)) (h : Ev tab call e σ d) (hd : d.fz) (hl : ds.length < 1000) (n : N (upd σ i (.cur (ds ++ [d])))) : WS tab call (.app i e) σ N B R := by
  show match σ i with | some (.cur ds) => _ | _ => False
  rw [hs]
  exact h _ ⟨hd, hl, n⟩
end

theorem callW {prog : Program} {tab : Str → Option Int} {k i : Nat} {f : Str} {ps : List Nat × IS} {ds : List PV} {Q : Cb} (hf : fid f = some i) (hc : compiled prog f = some ps) (hl : ps.1.length = ds.length)
    (h : WS tab (CallW prog tab k) ps.2 (bindP ps.1 ds) (fun _ => False) (fun _ => False) Q) : CallW prog tab (k + 1) i ds Q := ⟨f, ps.1, ps.2, hf, hc, hl, h⟩
end Cut20
namespace Cut20

/-! The drawn numbers and the row. -/
abbrev pw : Program := PySem.Challenge.pw_wj0020_01
theorem sml_of {i : Int} (h : -1000000 ≤ i ∧ i ≤ 1000000) : sml i := by unfold sml; omega
theorem rngN_items (a b : Nat) : (PV.rng (a : Int) (b : Int) 1).items = some ((List.range' a (b - a)).map num) := by
  show some (upTo (a : Int) ((b : Int) - (a : Int)).toNat) = _
  rw [show ((b : Int) - (a : Int)).toNat = b - a by omega, upTo_num]
theorem rng0_items (b : Nat) : (PV.rng 0 (b : Int) 1).items = some ((List.range b).map num) := by
  have := rngN_items 0 b
  rw [List.range_eq_range']
  exact this

theorem drawn_ok {k : Nat} (ns : List Int) (hl : ns.length ≤ 63) (Q : Cb) (h : ∀ ds : List Int, ds.length = 5 → Q (.list (ds.map .int))) : CallW pw tabF (k + 1) 1 [.list (ns.map .int)] Q := by
  refine callW (f := Str.ofString "_law_drawn") (by decide +kernel) c_isDrawn rfl ?_
  refine WS.seq (WS.seq (WS.loop (L := List.range (min ns.length 20)) num (fun pre τ => ∃ ds : List Int, ds.length = 5 ∧ τ 1 = some (.cur (ds.map .int)) ∧ τ 0 = some (.list (ns.map .int)))
    (.range1 (i := (min ns.length 20 : Nat)) (fun Q q => ?_) (by unfold sml; omega)) trivial (rng0_items _) (by simp; omega) ⟨[0, 1152, 5382, 6, 3], rfl, rfl, rfl⟩ (fun pre q post τ e i => ?_) fun τ i => ?_))
  · refine Ev.min2 (.lenL (.var (d := .list (ns.map .int)) rfl) (by simp; omega)) .int Q ?_
    have e : (if (20 : Int) < ((ns.map PV.int).length : Nat) then (20 : Int) else ((ns.map PV.int).length : Nat)) = ((min ns.length 20 : Nat) : Int) := by
      rw [List.length_map]; split <;> omega
    rw [e]; exact q
  · obtain ⟨ds, h5, h1, h0⟩ := i
    have hq : q < ns.length := by
      have : q ∈ List.range (min ns.length 20) := by rw [e]; simp
      rw [List.mem_range] at this; omega
    have hq63 : q < 63 := by omega
    refine ⟨upd τ 2 (num q), rfl, fun K hK => WS.seq (WS.augI (j := ((q : Int).fmod 5)) (u := ds[((q : Int).fmod 5).toNat]?.getD 0) (w := (ns[q]).fmod 1000000) (ds := ds.map .int) h1 (.mod (.var rfl) .int (by decide)) ?_ (by simp; omega) ?_ (.mod (.idxL (.var h0) (.var rfl) ?_ ?_ ?_) .int (by decide)) ?_)⟩
    · exact Int.fmod_nonneg_of_pos _ (by decide)
    · have := Int.fmod_nonneg_of_pos (q : Int) (b := 5) (by decide)
      have := Int.fmod_lt_of_pos (q : Int) (b := 5) (by decide)
      rw [List.getElem?_map]
      rw [List.getElem?_eq_getElem (by omega)]
      rfl
    · exact Int.natCast_nonneg q
    · omega
    · rw [List.getElem?_map, Int.toNat_natCast, List.getElem?_eq_getElem hq]; rfl
    · refine hK _ ⟨ds.set ((q : Int).fmod 5).toNat (ds[((q : Int).fmod 5).toNat]?.getD 0 + (ns[q]).fmod 1000000), by simpa using h5, ?_, h0⟩
      rw [List.map_set]; rfl
  · obtain ⟨ds, h5, h1, _⟩ := i
    exact WS.seq (WS.ret (.var h1) (h ds h5))

noncomputable def signs : List Nat := (Str.ofString "!%&()*+,-./:;<=>\x40[]^{|}~").cps.toList
structure GoodRow (row : Str) : Prop where
  five : row.cps.toList.length = 5
  all : ∀ c ∈ row.cps.toList, c ∈ signs

theorem row_ok {k : Nat} (ds : List Int) (hl : ds.length = 5) (Q : Cb) (h : ∀ row, GoodRow row → Q (.str row)) : CallW pw tabF (k + 1) 2 [.list (ds.map .int)] Q := by
  refine callW (f := Str.ofString "_law_row") (by decide +kernel) c_isRow rfl ?_
  refine WS.seq (WS.asg .str trivial (WS.seq (WS.asg .str trivial (WS.seq (WS.loop (L := ds) PV.int (fun pre τ => ∃ (row : Str) (c : Nat), row.cps.toList.length = pre.length ∧ (∀ c ∈ row.cps.toList, c ∈ signs) ∧ c ∈ signs ∧ τ 3 = some (.str row) ∧ τ 4 = some (.str ⟨#[c]⟩))
    (.var (d := .list (ds.map .int)) rfl) trivial rfl (by omega) ⟨Str.ofString "", 42, by decide +kernel, by decide +kernel, by decide +kernel, rfl, by
      show some (PV.str (Str.ofString "*")) = _
      rw [show Str.ofString "*" = ⟨#[42]⟩ by decide +kernel]⟩ (fun pre q post τ e i => ?_) fun τ i => ?_)))))
  · obtain ⟨row, c, h1, h2, h3, h4, h5⟩ := i
    have hp : pre.length < 5 := by
      rw [← hl, e]; simp
    have sz : row.length = pre.length := by rw [← h1]; simp [Str.length]
    have add : ∀ (K : Sg → Prop) (c' : Nat) (τ' : Sg), c' ∈ signs → τ' 3 = some (.str row) → τ' 4 = some (.str ⟨#[c']⟩) → (∀ τ'', (∃ (row : Str) (c : Nat), row.cps.toList.length = (pre ++ [q]).length ∧ (∀ c ∈ row.cps.toList, c ∈ signs) ∧ c ∈ signs ∧ τ'' 3 = some (.str row) ∧ τ'' 4 = some (.str ⟨#[c]⟩)) → K τ'') →
        ∀ (B : Sg → Prop) (R : Cb), WS tabF (CallW pw tabF k) (.augV 3 (.var 4)) τ' K B R := fun K c' τ' hc e3 e4 hK B R => WS.augS e3 (.var e4) (by rw [sz]; simp [Str.length]; omega) (hK _ ⟨row ++ ⟨#[c']⟩, c', by
          rw [Str.cps_append, Array.toList_append, List.length_append, List.length_append, h1]; rfl, fun x hx => by
          rw [Str.cps_append, Array.toList_append, List.mem_append] at hx
          rcases hx with hx | hx
          · exact h2 x hx
          · simp at hx; subst hx; exact hc, hc, rfl, e4⟩)
    refine ⟨upd τ 5 (.int q), rfl, fun K hK => WS.seq (WS.ite (q := decide ((q.fmod 16) > 10)) (.gt (.mod (.var rfl) .int (by decide)) .int (by simp)) (fun _ => ?_) fun _ => WS.seq (WS.ite (q := decide ((q.fmod 16) > 5)) (.gt (.mod (.var rfl) .int (by decide)) .int (by simp)) (fun _ => ?_) fun _ => ?_))⟩
    · have l0 := Int.fmod_nonneg_of_pos (q.fdiv 16) (b := 24) (by decide)
      have l1 := Int.fmod_lt_of_pos (q.fdiv 16) (b := 24) (by decide)
      have szs : signs.length = 24 := by decide +kernel
      have hi : ((q.fdiv 16).fmod 24).toNat < signs.length := by omega
      refine WS.seq (WS.asg (d := .str ⟨#[signs[((q.fdiv 16).fmod 24).toNat]]⟩) (.idxS .str (.mod (.fdiv (.var rfl) .int (by decide) (by decide)) .int (by decide)) l0 (by omega) ?_) trivial ?_)
      · rw [← Array.getElem?_toList]
        exact List.getElem?_eq_getElem hi
      · exact add K _ (upd (upd τ 5 (.int q)) 4 (.str ⟨#[signs[((q.fdiv 16).fmod 24).toNat]]⟩)) (List.getElem_mem hi) h4 rfl hK (fun _ => False) (fun _ => False)
    · refine WS.seq (WS.asg (d := .str ⟨#[61]⟩) ?_ trivial ?_)
      · rw [← show Str.ofString "=" = ⟨#[61]⟩ by decide +kernel]; exact .str
      · exact add K 61 (upd (upd τ 5 (.int q)) 4 (.str ⟨#[61]⟩)) (by decide +kernel) h4 rfl hK (fun _ => False) (fun _ => False)
    · exact add K c (upd τ 5 (.int q)) h3 h4 h5 hK (fun _ => False) (fun _ => False)
  · obtain ⟨row, c, h1, h2, _, h4, _⟩ := i
    exact WS.seq (WS.ret (.var h4) (h row ⟨h1.trans hl, h2⟩))
end Cut20
namespace Cut20

/-! Stretches of the row; which are blocks. -/
noncomputable def sub (row : Str) (p : Nat × Nat) : Str := ⟨((row.cps.toList.drop p.1).take (p.2 - p.1)).toArray⟩
theorem slice_sub {row : Str} {a b : Nat} (h : a ≤ b) (hb : b ≤ row.cps.toList.length) : Txt.slice row (some (a : Int)) (some (b : Int)) = sub row (a, b) := by
  have := eq_of_beq (slice_closes (x := row) (i := a) (j := b) ⟨by omega, by omega, by omega⟩)
  rw [this]
  unfold sub
  rw [show ((b : Int) - (a : Int)).toNat = b - a by omega]
  rfl
theorem sub_list (row : Str) (p : Nat × Nat) : (sub row p).cps.toList = (row.cps.toList.drop p.1).take (p.2 - p.1) := rfl

noncomputable def allPairs : List (Nat × Nat) := (List.range 5).flatMap fun a => (List.range' (a + 1) (5 - a)).map fun b => (a, b)
theorem mem_all {p : Nat × Nat} : p ∈ allPairs ↔ p.1 < p.2 ∧ p.2 ≤ 5 := by
  unfold allPairs
  simp only [List.mem_flatMap, List.mem_range, List.mem_map, List.mem_range']
  constructor
  · rintro ⟨a, ha, b, ⟨i, hi, rfl⟩, rfl⟩; omega
  · intro h; exact ⟨p.1, by omega, p.2, ⟨p.2 - (p.1 + 1), by omega, by omega⟩, rfl⟩
noncomputable def isB (row : Str) (p : Nat × Nat) : Bool := (tabF (sub row p)).isSome
noncomputable def blocksOf (row : Str) : List (Nat × Nat) := allPairs.filter (isB row)
theorem mem_blocks {row : Str} {p : Nat × Nat} : p ∈ blocksOf row ↔ p.1 < p.2 ∧ p.2 ≤ 5 ∧ isB row p = true := by
  unfold blocksOf
  rw [List.mem_filter, mem_all, and_assoc]

section
variable {row : Str} (G : GoodRow row)
include G
theorem sub_len {p : Nat × Nat} (h : p ∈ allPairs) : (sub row p).cps.toList.length = p.2 - p.1 := by
  have h := mem_all.mp h
  have h5 := G.five
  rw [sub_list, List.length_take, List.length_drop]
  omega
theorem sub_signs (p : Nat × Nat) : ∀ c ∈ (sub row p).cps.toList, c ∈ signs := fun c hc => G.all c (List.mem_of_mem_drop (List.mem_of_mem_take (sub_list row p ▸ hc)))
theorem sub_ok (p : Nat × Nat) : PyData.strOk (sub row p) = true := by
  unfold PyData.strOk
  rw [← Array.all_toList, List.all_eq_true]
  intro c hc
  have h : ∀ c ∈ signs, decide (c < 0x110000) = true := by decide +kernel
  exact h c (sub_signs G p c hc)
omit G in
theorem str_eq {x : Str} {l : List Nat} (h : x.cps.toList = l) : x = ⟨l.toArray⟩ := by
  cases x with | mk a => cases a; simp at h; subst h; rfl
end

noncomputable def twos : List Str := [(Str.ofString "->"), (Str.ofString "**"), (Str.ofString "//"), (Str.ofString "<<"), (Str.ofString ">>")]
noncomputable def threes : List Str := [(Str.ofString "**="), (Str.ofString "//="), (Str.ofString "<<="), (Str.ofString ">>="), (Str.ofString "...")]
noncomputable def heads : Str := Str.ofString "!%&*+-/:<=>@^|"
noncomputable def keyL : List (List Nat) := [[33], [33, 61], [37], [37, 61], [38], [38, 61], [40], [41], [42], [42, 42], [42, 42, 61], [42, 61], [43], [43, 61], [44], [45], [45, 61], [45, 62], [46], [46, 46, 46], [47], [47, 47], [47, 47, 61], [47, 61], [58], [58, 61], [59], [60], [60, 60], [60, 60, 61], [60, 61], [61], [61, 61], [62], [62, 61], [62, 62], [62, 62, 61], [64], [64, 61], [91], [93], [94], [94, 61], [123], [124], [124, 61], [125], [126]]
noncomputable def sigL : List Nat := [33, 37, 38, 40, 41, 42, 43, 44, 45, 46, 47, 58, 59, 60, 61, 62, 64, 91, 93, 94, 123, 124, 125, 126]
noncomputable def twoL : List (List Nat) := [[45, 62], [42, 42], [47, 47], [60, 60], [62, 62]]
noncomputable def headL : List Nat := [33, 37, 38, 42, 43, 45, 47, 58, 60, 61, 62, 64, 94, 124]
theorem cps_inj : ∀ {l : List Str} {z : Str}, (l.map (·.cps.toList)).contains z.cps.toList = l.contains z
  | [], z => rfl
  | y :: l, z => by
    rw [List.map_cons, List.contains_cons, List.contains_cons, cps_inj]
    congr 1
    rw [Bool.eq_iff_iff, beq_iff_eq, beq_iff_eq]
    exact ⟨fun h => (str_eq h).trans (str_eq rfl).symm, fun h => h ▸ rfl⟩
theorem keyL_eq : (tabL.map (·.1)).map (·.cps.toList) = keyL := by decide +kernel
theorem sigL_eq : signs = sigL := by decide +kernel
theorem twoL_eq : twos.map (·.cps.toList) = twoL := by decide +kernel
theorem heads_is : ∀ c ∈ sigL, (!(Builtin.Str.occurrences heads ⟨#[c]⟩ 0 heads.length 1).isEmpty) = headL.contains c := by decide +kernel
theorem lookup_some {α : Type} : ∀ (L : List (Str × α)) (z : Str), (L.lookup z).isSome = (L.map (·.1)).contains z
  | [], z => rfl
  | (y, v) :: L, z => by
    rw [List.lookup_cons, List.map_cons, List.contains_cons, ← lookup_some L z]
    cases z == y <;> rfl
theorem tab_is (z : Str) : (tabF z).isSome = keyL.contains z.cps.toList := by
  unfold tabF
  rw [lookup_some, ← keyL_eq, cps_inj]
noncomputable def two? (c d : Nat) : Bool := twoL.contains [c, d] || (d == 61 && headL.contains c)
theorem one_lit : ∀ c ∈ sigL, keyL.contains [c] = true := by decide +kernel
theorem key2 : (keyL.all fun k => match k with | [c, d] => two? c d | _ => true) = true := by decide +kernel
theorem key2a : (twoL.all fun k => keyL.contains k) = true := by decide +kernel
theorem key2b : (headL.all fun c => keyL.contains [c, 61]) = true := by decide +kernel
theorem two_lit (c d : Nat) : two? c d = keyL.contains [c, d] := by
  rw [Bool.eq_iff_iff, List.contains_iff_mem]
  constructor
  · intro h
    unfold two? at h
    rw [Bool.or_eq_true, Bool.and_eq_true, List.contains_iff_mem, List.contains_iff_mem, beq_iff_eq] at h
    rcases h with h | ⟨rfl, h⟩
    · exact List.contains_iff_mem.mp (List.all_eq_true.mp key2a _ h)
    · exact List.contains_iff_mem.mp (List.all_eq_true.mp key2b _ h)
  · exact fun h => List.all_eq_true.mp key2 _ h
theorem one_is (c : Nat) (h : c ∈ signs) : (tabF ⟨#[c]⟩).isSome = true := (tab_is _).trans (one_lit c (sigL_eq ▸ h))
theorem two_is (c : Nat) (hc : c ∈ signs) (d : Nat) (hd : d ∈ signs) : (twos.contains ⟨#[c, d]⟩ || (((⟨#[d]⟩ : Str) == Str.ofString "=") && !(Builtin.Str.occurrences heads ⟨#[c]⟩ 0 heads.length 1).isEmpty)) = (tabF ⟨#[c, d]⟩).isSome := by
  rw [sigL_eq] at hc hd
  rw [heads_is c hc, ← cps_inj, twoL_eq, tab_is, ← two_lit c d, show Str.ofString "=" = ⟨#[61]⟩ by decide +kernel]
  unfold two?
  congr 2
  rw [Bool.eq_iff_iff, beq_iff_eq, beq_iff_eq]
  exact ⟨fun h => by cases h; rfl, fun h => by rw [h]⟩
noncomputable def threeL : List (List Nat) := [[42, 42, 61], [47, 47, 61], [60, 60, 61], [62, 62, 61], [46, 46, 46]]
theorem threeL_eq : threes.map (·.cps.toList) = threeL := by decide +kernel
theorem keys3 : ∀ z ∈ keyL, z.length ≤ 2 ∨ z ∈ threeL := by decide +kernel
theorem keys3' : ∀ z ∈ threeL, z ∈ keyL := by decide +kernel
theorem three_is (z : Str) (h : 3 ≤ z.cps.toList.length) : threes.contains z = (tabF z).isSome := by
  rw [tab_is, ← cps_inj, threeL_eq, Bool.eq_iff_iff, List.contains_iff_mem, List.contains_iff_mem]
  exact ⟨keys3' _, fun hz => (keys3 _ hz).elim (fun h' => by omega) id⟩

theorem isin_texts {xs : List Str} {s : Str} {tab : Str → Option Int} {call : Nat → List PV → Cb → Prop} {σ : Sg} {a : IE} (ha : Ev tab call a σ (.str s)) (h1 : PyData.strOk s = true) (h2 : ∀ x ∈ xs, PyData.strOk x = true) (h3 : xs.length < 1000) :
    Ev tab call (.cmp .isin a (.texts xs)) σ (.bool (xs.contains s)) := by
  refine Ev.isinT ha (.texts h3) h1 (strs_ok h2) ?_
  rw [List.contains_iff_mem]
  constructor
  · exact fun h => List.mem_map_of_mem h
  · intro h
    obtain ⟨y, hy, e⟩ := List.mem_map.mp h
    cases e; exact hy

theorem spells_ok {k : Nat} {row : Str} (G : GoodRow row) {p : Nat × Nat} (hp : p ∈ allPairs) (Q : Cb) (h : Q (.bool (isB row p))) : CallW pw tabF (k + 1) 3 [.str (sub row p)] Q := by
  refine callW (f := Str.ofString "_law_spells") (by decide +kernel) c_isSpells rfl ?_
  have hl := sub_len G hp
  have hs := sub_signs G p
  have ho := sub_ok G p
  have hp' := mem_all.mp hp
  unfold isB at h
  generalize sub row p = z at hl hs ho h
  have hz : z.length = p.2 - p.1 := by rw [← hl]; simp [Str.length]
  have len : ∀ (σ : Sg), σ 6 = some (.str z) → Ev tabF (CallW pw tabF k) (.len (.var 6)) σ (.int ((p.2 - p.1 : Nat) : Int)) := fun σ e => hz ▸ Ev.lenS (.var e) (by omega)
  refine WS.seq (WS.ite (q := decide (p.2 - p.1 = 1)) (.eq (len _ rfl) .int (by simp; omega)) (fun e => ?_) fun e => WS.seq (WS.ite (q := decide (p.2 - p.1 = 2)) (.eq (len _ rfl) .int (by simp; omega)) (fun e' => ?_) fun e' => ?_))
  · rw [decide_eq_true_eq] at e
    match hL : z.cps.toList, hl.trans e with
    | [c], _ =>
      rw [str_eq hL, one_is c (hs c (by simp [hL]))] at h
      exact WS.seq (WS.ret .bool h)
  · rw [decide_eq_true_eq] at e'
    match hL : z.cps.toList, hl.trans e' with
    | [c, d], _ =>
      have ez := str_eq hL
      rw [ez, ← two_is c (hs c (by simp [hL])) d (hs d (by simp [hL]))] at h
      refine WS.seq (WS.ret (d := .bool (twos.contains z || (((⟨#[d]⟩ : Str) == Str.ofString "=") && !(Builtin.Str.occurrences heads ⟨#[c]⟩ 0 heads.length 1).isEmpty))) ?_ (by rw [ez]; exact h))
      refine Ev.or (isin_texts (.var rfl) ho (by decide +kernel) (by decide)) fun _ => .and (.eqS (.idxS (n := d) (.var (d := .str z) rfl) .int (by decide) (by decide) ?_) .str (by simp)) fun _ => .isinS (.idxS (n := c) (.var (d := .str z) rfl) .int (by decide) (by decide) ?_) .str
      · rw [← Array.getElem?_toList, hL]; rfl
      · rw [← Array.getElem?_toList, hL]; rfl
  · rw [decide_eq_false_iff_not] at e e'
    rw [← three_is z (by omega)] at h
    exact WS.seq (WS.ret (isin_texts (.var rfl) ho (by decide +kernel) (by decide)) h)
end Cut20
namespace Cut20

/-! The width. -/
noncomputable def widOf (l : Nat) (t : Bool) : Int := if 3 < l then l else if t then 4 else 3
theorem width_none {k : Nat} (es : List (Int × PV)) (Q : Cb) (h1 : es.length < 1000) (h2 : (es.all fun p => valOk p.2) = true) (h3 : (es.map (·.2)).filterMap some? = []) (h : Q (.int 0)) : CallW pw tabF (k + 1) 7 [.dict es] Q := by
  refine callW (f := Str.ofString "_get_lineno_width") (by decide +kernel) c_isWidth rfl ?_
  refine WS.seq (WS.ite (q := false) (fun Q q => q) (fun e => nomatch e) fun _ => WS.seq ?_)
  refine ⟨h1, h2, ?_⟩
  rw [h3]
  exact ⟨trivial, WS.seq (WS.ite (q := true) (.eq (.var rfl) .int (by decide)) (fun _ => WS.seq (WS.ret .int h)) fun e => nomatch e)⟩
theorem width_some {k : Nat} (es : List (Int × PV)) (Q : Cb) (h1 : es.length < 1000) (h2 : (es.all fun p => valOk p.2) = true) (t : Bool) (ht : t = true ↔ PV.none ∈ es.map (·.2)) (hne : (es.map (·.2)).filterMap some? ≠ [])
    (h : ∀ m, m ∈ (es.map (·.2)).filterMap some? → (∀ a ∈ (es.map (·.2)).filterMap some?, a ≤ m) → 0 ≤ m ∧ m < 10 ^ 300 ∧ (Str.ofString (toString m)).length ≤ 1000 ∧ Q (.int (widOf (Str.ofString (toString m)).length t))) :
    CallW pw tabF (k + 1) 7 [.dict es] Q := by
  refine callW (f := Str.ofString "_get_lineno_width") (by decide +kernel) c_isWidth rfl ?_
  refine WS.seq (WS.ite (q := false) (fun Q q => q) (fun e => nomatch e) fun _ => WS.seq ?_)
  refine ⟨h1, h2, ?_⟩
  cases hv : (es.map (·.2)).filterMap some? with
  | nil => exact absurd hv hne
  | cons n ns =>
    rw [hv] at h
    refine fun m hm hmax => ⟨trivial, ?_⟩
    obtain ⟨h0, hlt, hl, hQ⟩ := h m hm hmax
    refine WS.seq (WS.ite (q := false) (.eq (i := m) (j := -1) (.var rfl) .int (by simp; omega)) (fun e => nomatch e) fun _ => WS.seq ?_)
    generalize hL : (Str.ofString (toString m)).length = l at hl hQ
    refine WS.asg (d := .int (if (l : Int) > 3 then (l : Int) else 3)) (.max2 .int (hL ▸ .lenS (.strOf (.var rfl) h0 hlt) (by omega))) trivial ?_
    have e4 : (Str.ofString "  --").length = 4 := by decide +kernel
    have len4 : ∀ σ, Ev tabF (CallW pw tabF k) (.len .noLine) σ (.int 4) := fun σ Q q => Ev.lenS (s := Str.ofString "  --") .noLine (by decide +kernel) Q (by rw [e4]; exact q)
    refine WS.seq (WS.ite (q := decide ((if (l : Int) > 3 then (l : Int) else 3) < 4) && t) (.and (.lt (.var rfl) (len4 _) (by simp)) fun _ => .noneIn (.var rfl) h1 h2 ht) (fun e => ?_) fun e => ?_)
    · refine WS.seq (WS.asg (len4 _) trivial (WS.seq (WS.ret (d := .int 4) (.var rfl) ?_)))
      simp only [Bool.and_eq_true, decide_eq_true_eq] at e
      obtain ⟨e1, rfl⟩ := e
      have : widOf l true = 4 := by unfold widOf; rw [if_neg (by split at e1 <;> omega)]; rfl
      rw [this] at hQ; exact hQ
    · refine WS.seq (WS.ret (.var rfl) ?_)
      have : widOf l t = (if (l : Int) > 3 then (l : Int) else 3) := by
        unfold widOf
        cases t with
        | true =>
          simp only [Bool.and_true, decide_eq_false_iff_not] at e
          split at e <;> (split <;> omega)
        | false =>
          by_cases l3 : 3 < l
          · rw [if_pos l3, if_pos (by omega)]
          · rw [if_neg l3, if_neg (show ¬ ((l : Int) > 3) by omega)]; rfl
      rw [this] at hQ; exact hQ
end Cut20
namespace Cut20

/-! The likes. -/
theorem perm_map {α β : Type} (f : α → β) {A es : List β} (h : A.Perm es) : ∀ L : List α, L.map f = A → ∃ M : List α, M.Perm L ∧ es = M.map f := by
  induction h with
  | nil =>
    intro L e
    cases L with
    | nil => exact ⟨[], .refl _, rfl⟩
    | cons _ _ => cases e
  | cons x _ ih =>
    intro L e
    cases L with
    | nil => cases e
    | cons p L =>
      simp only [List.map_cons, List.cons.injEq] at e
      obtain ⟨M, hm, rfl⟩ := ih L e.2
      exact ⟨p :: M, hm.cons p, by rw [List.map_cons, e.1]⟩
  | swap x y l =>
    intro L e
    match L, e with
    | p :: q :: L, e =>
      simp only [List.map_cons, List.cons.injEq] at e
      obtain ⟨rfl, rfl, rfl⟩ := e
      exact ⟨q :: p :: L, .swap _ _ _, rfl⟩
  | trans _ _ ih1 ih2 =>
    intro L e
    obtain ⟨M, hm, rfl⟩ := ih1 L e
    obtain ⟨M', hm', rfl⟩ := ih2 M rfl
    exact ⟨M', hm'.trans hm, rfl⟩

section
variable {tab : Str → Option Int} {call : Nat → List PV → Cb → Prop} {σ : Sg} {a elt cond iter : IE} {t : Tgt} {vis : List Nat} {N B : Sg → Prop} {R Q : Cb}
theorem W_ret (h : W tab call a σ fun d => R d.froze) : WS tab call (.ret a) σ N B R := h
theorem W_sorted (h : W tab call a σ fun x => sortedW x Q) : W tab call (.sorted a) σ Q := h
theorem W_compM (h : W tab call iter σ fun x => match x.items with
    | some ds => ds.length < 1000000 ∧ ds.foldr (fun d K acc => match bindT t d (restr σ vis) with
        | some τ => if false then W tab call cond τ fun b => truth b fun ok => if ok then W tab call elt τ fun e => e.fz ∧ K (acc ++ [e]) else K acc
            else W tab call elt τ fun e => e.fz ∧ K (acc ++ [e])
        | Option.none => False) (fun acc => Q (.list acc)) []
    | Option.none => False) : W tab call (.comp elt t iter false cond vis) σ Q := h
end

/-- what sign k may like: the stretches of blocks over k, each once, in any order -/
structure Likes (row : Str) (k : Nat) (l : List Str) : Prop where
  nodup : l.Nodup
  mem : ∀ z, z ∈ l ↔ ∃ p ∈ blocksOf row, p.1 ≤ k ∧ k < p.2 ∧ z = sub row p
  len : l.length ≤ 15

theorem tab_small {z : Str} {i : Int} (h : tabF z = some i) : 0 ≤ i ∧ i ≤ 100 := by
  have : ∀ p ∈ tabL, 0 ≤ p.2 ∧ p.2 ≤ 100 := by decide +kernel
  have key : ∀ (L : List (Str × Int)), L.lookup z = some i → (z, i) ∈ L := by
    intro L
    induction L with
    | nil => intro h; cases h
    | cons p L ih =>
      intro h
      rw [List.lookup_cons] at h
      cases hb : z == p.1 with
      | true => rw [hb] at h; cases h; rw [beq_iff_eq.mp hb]; exact .head _
      | false => rw [hb] at h; exact .tail _ (ih h)
  exact this _ (key tabL h)
theorem blocks_len (row : Str) : (blocksOf row).length ≤ 15 := Nat.le_trans (List.length_filter_le _ _) (by decide +kernel)
noncomputable def pairT (turn : Int) (z : Str) : PV := .tup [.int ((((tabF z).getD 0) * turn).fmod 59), .str z]

theorem likes_ok {n : Nat} {row : Str} (G : GoodRow row) (k : Nat) (hk : k < 5) (turn : Int) (ht : 0 ≤ turn ∧ turn ≤ 1000) (Q : Cb) (h : ∀ l, Likes row k l → Q (.list (l.map .str))) :
    CallW pw tabF (n + 1) 4 [.str row, .list ((blocksOf row).map pr), .int k, .int turn] Q := by
  refine callW (f := Str.ofString "_law_likes") (by decide +kernel) c_isLikes rfl ?_
  have hrl : row.length ≤ 1000000 := by have := G.five; simp [Str.length] at this ⊢; omega
  refine WS.seq (WS.seq (WS.loop (L := blocksOf row) pr (fun pre τ => ∃ parts : List Str, τ 9 = some (.cur (parts.map .str)) ∧ τ 3 = some (.str row) ∧ τ 2 = some (.int k) ∧ τ 8 = some (.int turn) ∧ parts.Nodup ∧ parts.length ≤ pre.length ∧
      ∀ z, z ∈ parts ↔ ∃ p ∈ pre, p.1 ≤ k ∧ k < p.2 ∧ z = sub row p)
    (.var (d := .list ((blocksOf row).map pr)) rfl) trivial rfl (by have := blocks_len row; omega) ⟨[], rfl, rfl, rfl, rfl, .nil, Nat.le_refl _, fun z => by simp⟩ (fun pre q post τ e i => ?_) fun τ i => ?_))
  · obtain ⟨parts, h9, h3, h2, h8, hn, hl, hm⟩ := i
    have hq : q ∈ blocksOf row := by rw [e]; simp
    have hq' := mem_blocks.mp hq
    have hlen : pre.length < 15 := by have := blocks_len row; rw [e] at this; simp at this; omega
    have pok : ∀ x ∈ parts, PyData.strOk x = true := fun x hx => by obtain ⟨p, _, _, _, rfl⟩ := (hm x).mp hx; exact sub_ok G p
    refine ⟨upd (upd τ 10 (num q.1)) 11 (num q.2), rfl, fun K hK => ?_⟩
    have sl : Ev tabF (CallW pw tabF n) (.slice (.var 3) (.var 10) (.var 11)) (upd (upd τ 10 (num q.1)) 11 (num q.2)) (.str (sub row q)) := by
      have := Ev.slice (tab := tabF) (call := CallW pw tabF n) (σ := upd (upd τ 10 (num q.1)) 11 (num q.2)) (a := .var 3) (b := .var 10) (c := .var 11) (s := row) (i := q.1) (j := q.2) (.var h3) (.var rfl) (.var rfl) hrl
      rwa [slice_sub (by omega) (by rw [G.five]; omega)] at this
    refine WS.seq (WS.ite (q := decide (q.1 ≤ k ∧ k < q.2) && decide (¬ sub row q ∈ parts)) (.and (.chain (i := q.1) (j := k) (l := q.2) (.var rfl) (.var h2) (.var rfl) (by simp)) fun _ => .notinSC sl (.var h9) (sub_ok G q) ?_ ?_) (fun hy => ?_) fun hy => hK _ ?_)
    · exact strs_ok pok
    · rw [decide_eq_true_eq]
      refine not_congr ⟨fun h => List.mem_map_of_mem h, fun h => ?_⟩
      obtain ⟨y, hy, e⟩ := List.mem_map.mp h
      cases e; exact hy
    · rw [Bool.and_eq_true, decide_eq_true_eq, decide_eq_true_eq] at hy
      refine WS.seq (WS.app h9 sl trivial (by rw [List.length_map]; omega) (hK _ ⟨parts ++ [sub row q], ?_, h3, h2, h8, ?_, ?_, fun z => ?_⟩))
      · show some (PV.cur (parts.map PV.str ++ [PV.str (sub row q)])) = _
        rw [List.map_append]; rfl
      · rw [List.nodup_append]
        exact ⟨hn, by simp, fun a ha b hb => by simp at hb; subst hb; exact fun e => hy.2 (e ▸ ha)⟩
      · simp; omega
      · rw [List.mem_append, hm z]
        constructor
        · rintro (⟨p, hp, h⟩ | h)
          · exact ⟨p, List.mem_append_left _ hp, h⟩
          · simp at h; exact ⟨q, by simp, hy.1.1, hy.1.2, h⟩
        · rintro ⟨p, hp, h⟩
          rcases List.mem_append.mp hp with hp | hp
          · exact .inl ⟨p, hp, h⟩
          · simp at hp; subst hp; exact .inr (by simp [h.2.2])
    · refine ⟨parts, h9, h3, h2, h8, hn, by simp; omega, fun z => ?_⟩
      rw [hm z]
      constructor
      · rintro ⟨p, hp, h⟩; exact ⟨p, List.mem_append_left _ hp, h⟩
      · rintro ⟨p, hp, h⟩
        rcases List.mem_append.mp hp with hp | hp
        · exact ⟨p, hp, h⟩
        · simp at hp; subst hp
          rw [Bool.and_eq_false_iff, decide_eq_false_iff_not, decide_eq_false_iff_not] at hy
          rcases hy with hy | hy
          · exact absurd ⟨h.1, h.2.1⟩ hy
          · have := (hm (sub row p)).mp (Decidable.not_not.mp hy)
            obtain ⟨p', a, b, c, d⟩ := this
            exact ⟨p', a, b, c, h.2.2.trans d⟩
  · obtain ⟨parts, h9, h3, h2, h8, hn, hl, hm⟩ := i
    have hlen : parts.length ≤ 15 := Nat.le_trans hl (blocks_len row)
    have tabs : ∀ z ∈ parts, ∃ i, tabF z = some i := fun z hz => by
      obtain ⟨p, hp, _, _, rfl⟩ := (hm z).mp hz
      exact Option.isSome_iff_exists.mp (mem_blocks.mp hp).2.2
    refine WS.seq (W_ret (W_compM (W_sorted ?_)))
    refine Ev.compM (L := parts) PV.str (pairT turn) (.var h9) rfl (by omega) (fun z hz => ?_) _ ?_
    · obtain ⟨i, hi⟩ := tabs z hz
      have hs := tab_small hi
      refine ⟨upd (restr τ [8]) 6 (.str z), rfl, ?_, trivial⟩
      unfold pairT
      rw [hi]
      exact .tup2 (.mod (.mul (.tabAt (.var rfl) hi) (.var (show restr τ [8] 8 = _ from h8)) (show sml i by unfold sml; omega) (by unfold sml; omega)) .int (by decide)) (.var rfl) trivial trivial
    · refine ⟨by rw [List.length_map]; omega, .inr ?_, fun es hes => ?_⟩
      · rw [List.all_map]; exact List.all_eq_true.mpr fun _ _ => rfl
      · obtain ⟨M, hM, rfl⟩ := perm_map (pairT turn) hes.symm parts rfl
        refine compM_at (x := .list (M.map (pairT turn))) (σ := τ) (vis := []) (cond := .none) (elt := .idx (.var 12) (.int 1)) (t := .one 12) (L := M) (pairT turn) PV.str rfl (by have := hM.length_eq; omega) (fun z hz => ⟨upd (restr τ []) 12 (pairT turn z), rfl, .idxT (i := 1) (ds := [.int ((((tabF z).getD 0) * turn).fmod 59), .str z]) (.var rfl) .int (by decide) (by decide) rfl, trivial⟩) ?_
        exact h M ⟨hM.nodup_iff.mpr hn, fun z => (hM.mem_iff).trans (hm z), by rw [hM.length_eq]; exact hlen⟩
end Cut20
namespace Cut20

/-! The reply 257: told, and heard. -/
noncomputable def enc : List Nat → List Nat
  | [] => []
  | c :: r => if c = 34 then 34 :: 34 :: enc r else c :: enc r
theorem enc_append : ∀ a b, enc (a ++ b) = enc a ++ enc b
  | [], b => rfl
  | c :: a, b => by
    rw [List.cons_append, enc, enc, enc_append a b]
    split <;> rfl
theorem enc_plain : ∀ {a : List Nat}, 34 ∉ a → enc a = a
  | [], _ => rfl
  | c :: a, h => by
    simp only [List.mem_cons, not_or] at h
    unfold enc
    rw [if_neg (fun e => h.1 e.symm), enc_plain h.2]
noncomputable def jn (s : List Nat) : List (List Nat) → List Nat
  | [] => []
  | [x] => x
  | x :: y :: r => x ++ s ++ jn s (y :: r)
theorem jn_enc : ∀ {L : List (List Nat)}, (∀ x ∈ L, 34 ∉ x) → enc (jn [34] L) = jn [34, 34] L
  | [], _ => rfl
  | [x], h => enc_plain (h x (.head _))
  | x :: y :: r, h => by
    show enc (x ++ [34] ++ jn [34] (y :: r)) = x ++ [34, 34] ++ jn [34, 34] (y :: r)
    rw [enc_append, enc_append, enc_plain (h x (.head _)), jn_enc fun z hz => h z (.tail _ hz)]
    rfl
theorem join_list (s : Str) : ∀ L : List Str, (Txt.join s L).cps.toList = jn s.cps.toList (L.map (·.cps.toList)) := by
  have key : ∀ L : List Str, (Str.join s L).cps.toList = jn s.cps.toList (L.map (·.cps.toList)) := by
    intro L
    induction L with
    | nil => rfl
    | cons x L ih =>
      cases L with
      | nil => rfl
      | cons y r =>
        show (x ++ s ++ Str.join s (y :: r)).cps.toList = _
        rw [Str.cps_append, Str.cps_append, Array.toList_append, Array.toList_append, ih]
        rfl
  intro L
  unfold Txt.join
  rw [StrLaws.glued_eq_join, key]
theorem cut_inj : ∀ {x y u v : List Nat}, 34 ∉ x → 34 ∉ y → x ++ 34 :: u = y ++ 34 :: v → x = y ∧ u = v
  | [], [], _, _, _, _, h => ⟨rfl, by simpa using h⟩
  | [], c :: y, _, _, _, hy, h => by
    simp only [List.nil_append, List.cons_append, List.cons.injEq] at h
    exact absurd (by rw [h.1]; exact .head _) hy
  | c :: x, [], _, _, hx, _, h => by
    simp only [List.nil_append, List.cons_append, List.cons.injEq] at h
    exact absurd (by rw [← h.1]; exact .head _) hx
  | c :: x, d :: y, _, _, hx, hy, h => by
    simp only [List.cons_append, List.cons.injEq] at h
    obtain ⟨rfl, rfl⟩ := cut_inj (fun m => hx (.tail _ m)) (fun m => hy (.tail _ m)) h.2
    exact ⟨by rw [h.1], rfl⟩
theorem jn_inj : ∀ {A B : List (List Nat)}, A ≠ [] → B ≠ [] → (∀ x ∈ A, 34 ∉ x) → (∀ x ∈ B, 34 ∉ x) → jn [34] A = jn [34] B → A = B
  | [], _, h, _, _, _, _ => absurd rfl h
  | _ :: _, [], _, h, _, _, _ => absurd rfl h
  | [x], [y], _, _, _, _, h => by rw [show x = y from h]
  | [x], y :: z :: r, _, _, ha, _, h => by
    have h : x = y ++ [34] ++ jn [34] (z :: r) := h
    exact absurd (by rw [h]; simp) (ha x (.head _))
  | x :: z :: r, [y], _, _, _, hb, h => by
    have h : x ++ [34] ++ jn [34] (z :: r) = y := h
    exact absurd (by rw [← h]; simp) (hb y (.head _))
  | x :: x' :: r, y :: y' :: q, _, _, ha, hb, h => by
    have h : x ++ [34] ++ jn [34] (x' :: r) = y ++ [34] ++ jn [34] (y' :: q) := h
    rw [List.append_assoc, List.append_assoc] at h
    obtain ⟨rfl, h'⟩ := cut_inj (ha x (.head _)) (hb y (.head _)) h
    rw [jn_inj (List.cons_ne_nil _ _) (List.cons_ne_nil _ _) (fun z hz => ha z (.tail _ hz)) (fun z hz => hb z (.tail _ hz)) h']
theorem map_inj {A B : List Str} (h : A.map (·.cps.toList) = B.map (·.cps.toList)) : A = B := by
  induction A generalizing B with
  | nil => cases B with | nil => rfl | cons _ _ => cases h
  | cons a A ih =>
    cases B with
    | nil => cases h
    | cons b B =>
      simp only [List.map_cons, List.cons.injEq] at h
      rw [ih h.2, (str_eq h.1).trans (str_eq rfl).symm]
theorem split_ne (x y : Str) : Txt.split x y ≠ [] := by
  unfold Txt.split
  split
  · simp
  · split
    · simp
    · rw [StrLaws.partsBetween_eq]
      obtain ⟨p, r, e⟩ := StrLaws.partsFrom_ne x y.length 0 (Builtin.Str.occurrences x y 0 x.length (x.length + 1))
      rw [e]; simp
theorem split_join {one : List Str} (h : one ≠ []) (hq : ∀ x ∈ one, 34 ∉ x.cps.toList) : Txt.split (Txt.join ⟨#[34]⟩ one) ⟨#[34]⟩ = one := by
  have e := StrLaws.join_split (Txt.join ⟨#[34]⟩ one) ⟨#[34]⟩
  rw [← StrLaws.glued_eq_join] at e
  have e' := congrArg (fun z : Str => z.cps.toList) (show Txt.join ⟨#[34]⟩ (Txt.split (Txt.join ⟨#[34]⟩ one) ⟨#[34]⟩) = Txt.join ⟨#[34]⟩ one from e)
  simp only [join_list] at e'
  refine map_inj (jn_inj (by simpa using split_ne _ _) (by simpa using h) (fun x hx => ?_) (fun x hx => ?_) e')
  · obtain ⟨p, hp, rfl⟩ := List.mem_map.mp hx
    exact StrLaws.split_free _ 34 p (by simpa only [join_list] using hp)
  · obtain ⟨p, hp, rfl⟩ := List.mem_map.mp hx
    exact hq p hp

/-- what stands behind the last mark -/
noncomputable def tailL : List Nat := (Str.ofString "\" from the least on").cps.toList
noncomputable def headL' : List Nat := (Str.ofString "257 \"").cps.toList
noncomputable def tailR : List Nat := [102, 114, 111, 109, 32, 116, 104, 101, 32, 108, 101, 97, 115, 116, 32, 111, 110]
theorem tailL_eq : tailL = 34 :: 32 :: tailR := by decide +kernel
theorem headL_eq : headL' = [50, 53, 55, 32, 34] := by decide +kernel
theorem mark_eq : Str.ofString "\"" = ⟨#[34]⟩ := by decide +kernel

noncomputable def whlBody : IS := (.seq 
  (.asg 38 (.idx (.var 35) (.var 37))) (.seq 
  (.asg 37 (.bin .add (.var 37) (.int 1))) (.seq 
  (.ite (.cmp .eq (.var 38) (.str (Str.ofString "\""))) (.seq 
  (.ite (.or (.cmp .ge (.var 37) (.var 28)) (.cmp .ne (.idx (.var 35) (.var 37)) (.str (Str.ofString "\"")))) (.seq .brk .nop) .nop) (.seq 
  (.asg 37 (.bin .add (.var 37) (.int 1))) .nop)) .nop) (.seq 
  (.asg 36 (.bin .add (.var 36) (.var 38))) .nop))))
noncomputable def whlRec (tab : Str → Option Int) (call : Nat → List PV → Cb → Prop) (N : Sg → Prop) (R : Cb) (n : Nat) : Sg → Prop := Nat.rec (motive := fun _ => Sg → Prop) (fun _ => False)
      (fun _ K τ => W tab call (.cmp .lt (.var 37) (.var 28)) τ fun x => truth x fun t => if t then WS tab call whlBody τ K N R else N τ) n
theorem whl_of {tab : Str → Option Int} {call : Nat → List PV → Cb → Prop} {σ : Sg} {N B : Sg → Prop} {R : Cb} (n : Nat) (h : whlRec tab call N R n σ) : WS tab call (.whl (.cmp .lt (.var 37) (.var 28)) whlBody) σ N B R := ⟨n, h⟩

theorem whl_run {tab : Str → Option Int} {call : Nat → List PV → Cb → Prop} {N : Sg → Prop} {R : Cb} {resp : Str} (Y : List Nat) (hD : resp.cps.toList = headL' ++ enc Y ++ tailL) (hl : resp.cps.toList.length ≤ 5000)
    (fin : ∀ τ, τ 36 = some (.str ⟨Y.toArray⟩) → N τ) : ∀ (Yr Yd : List Nat) (τ : Sg), Y = Yd ++ Yr → τ 35 = some (.str resp) → τ 37 = some (.int ((5 + (enc Yd).length : Nat) : Int)) → τ 36 = some (.str ⟨Yd.toArray⟩) → τ 28 = some (.int (resp.cps.toList.length : Nat)) →
      whlRec tab call N R (Yr.length + 1) τ := by
  have h5 : headL'.length = 5 := by rw [headL_eq]; rfl
  have look : ∀ (pre rest : List Nat) (c : Nat) (i : Nat), enc Y ++ tailL = pre ++ c :: rest → i = 5 + pre.length → resp.cps[((i : Nat) : Int).toNat]? = some c ∧ i < resp.cps.toList.length := fun pre rest c i e hi => by
    rw [Int.toNat_natCast, ← Array.getElem?_toList, hD, List.append_assoc, e, hi, ← h5]
    constructor
    · rw [List.getElem?_append_right (by omega), Nat.add_sub_cancel_left, List.getElem?_append_right (Nat.le_refl _), Nat.sub_self]; rfl
    · simp
  intro Yr
  induction Yr with
  | nil =>
    intro Yd τ e e35 e37 e36 e28
    rw [List.append_nil] at e
    subst e
    obtain ⟨l1, l2⟩ := look (enc Y) (32 :: tailR) 34 (5 + (enc Y).length) (by rw [tailL_eq]) rfl
    obtain ⟨l3, l4⟩ := look (enc Y ++ [34]) tailR 32 (5 + (enc Y).length + 1) (by rw [tailL_eq]; simp) (by simp; omega)
    refine Ev.lt (t := true) (.var e37) (.var e28) ⟨fun _ => by omega, fun _ => rfl⟩ _ ?_
    refine WS.seq (WS.asg (.idxS (.var e35) (.var e37) (by omega) (by omega) l1) trivial (WS.seq (WS.asg (d := .int ((5 + (enc Y).length + 1 : Nat) : Int)) (.add (i := ((5 + (enc Y).length : Nat) : Int)) (j := 1) (.var (by exact e37)) .int) trivial ?_)))
    refine WS.seq (WS.ite (q := true) (.eqS (.var rfl) .str (by rw [mark_eq]; simp)) (fun _ => ?_) fun h => nomatch h)
    refine WS.seq (WS.ite (q := false || true) (.or (.ge (t := false) (i := ((5 + (enc Y).length + 1 : Nat) : Int)) (j := (resp.cps.toList.length : Nat)) (.var rfl) (.var (by exact e28)) ⟨fun h => (nomatch h), fun h => by omega⟩) fun _ => .neS (.idxS (s := resp) (.var (by exact e35)) (.var rfl) (by omega) (by omega) l3) .str (by rw [mark_eq]; simp)) (fun _ => ?_) fun h => nomatch h)
    exact fin _ e36
  | cons c r ih =>
    intro Yd τ e e35 e37 e36 e28
    have e' : Y = (Yd ++ [c]) ++ r := by rw [e]; simp
    have ylen : Yd.length ≤ 5000 := by
      have h1 : ∀ L : List Nat, L.length ≤ (enc L).length := by
        intro L
        induction L with
        | nil => exact Nat.le_refl _
        | cons d L ih' => rw [enc]; split <;> simp <;> omega
      have h2 := h1 Y
      have h3 : Yd.length ≤ Y.length := by rw [e]; simp
      have h4 : (enc Y).length ≤ resp.cps.toList.length := by rw [hD]; simp; omega
      omega
    by_cases hc : c = 34
    · subst hc
      have ee : enc Y ++ tailL = enc Yd ++ 34 :: 34 :: (enc r ++ tailL) := by rw [e, enc_append, enc]; simp
      obtain ⟨l1, l2⟩ := look (enc Yd) _ 34 (5 + (enc Yd).length) ee rfl
      obtain ⟨l3, l4⟩ := look (enc Yd ++ [34]) (enc r ++ tailL) 34 (5 + (enc Yd).length + 1) (by rw [ee]; simp) (by simp; omega)
      refine Ev.lt (t := true) (.var e37) (.var e28) ⟨fun _ => by omega, fun _ => rfl⟩ _ ?_
      refine WS.seq (WS.asg (.idxS (.var e35) (.var e37) (by omega) (by omega) l1) trivial (WS.seq (WS.asg (d := .int ((5 + (enc Yd).length + 1 : Nat) : Int)) (.add (i := ((5 + (enc Yd).length : Nat) : Int)) (j := 1) (.var (by exact e37)) .int) trivial ?_)))
      refine WS.seq (WS.ite (q := true) (.eqS (.var rfl) .str (by rw [mark_eq]; simp)) (fun _ => ?_) fun h => nomatch h)
      refine WS.seq (WS.ite (q := false || false) (.or (.ge (t := false) (i := ((5 + (enc Yd).length + 1 : Nat) : Int)) (j := (resp.cps.toList.length : Nat)) (.var rfl) (.var (by exact e28)) ⟨fun h => (nomatch h), fun h => by omega⟩) fun _ => .neS (.idxS (s := resp) (.var (by exact e35)) (.var rfl) (by omega) (by omega) l3) .str (by rw [mark_eq]; simp)) (fun h => nomatch h) fun _ => ?_)
      refine WS.seq (WS.seq (WS.asg (d := .int ((5 + (enc Yd).length + 2 : Nat) : Int)) (.add (i := ((5 + (enc Yd).length + 1 : Nat) : Int)) (j := 1) (.var rfl) .int) trivial (WS.seq (WS.asg (d := .str (⟨Yd.toArray⟩ ++ ⟨#[34]⟩)) (.cat (.var (by exact e36)) (.var rfl) (by simp [Str.length]; omega)) trivial ?_))))
      refine ih (Yd ++ [34]) _ e' e35 ?_ ?_ e28
      · show some (PV.int ((5 + (enc Yd).length + 2 : Nat) : Int)) = _
        rw [enc_append, List.length_append]; rfl
      · show some (PV.str (⟨Yd.toArray⟩ ++ ⟨#[34]⟩)) = _
        congr 2
        apply Str.ext'
        rw [Str.cps_append]
        simp
    · have ee : enc Y ++ tailL = enc Yd ++ c :: (enc r ++ tailL) := by rw [e, enc_append, enc, if_neg hc]; simp
      obtain ⟨l1, l2⟩ := look (enc Yd) _ c (5 + (enc Yd).length) ee rfl
      refine Ev.lt (t := true) (.var e37) (.var e28) ⟨fun _ => by omega, fun _ => rfl⟩ _ ?_
      refine WS.seq (WS.asg (.idxS (.var e35) (.var e37) (by omega) (by omega) l1) trivial (WS.seq (WS.asg (d := .int ((5 + (enc Yd).length + 1 : Nat) : Int)) (.add (i := ((5 + (enc Yd).length : Nat) : Int)) (j := 1) (.var (by exact e37)) .int) trivial ?_)))
      refine WS.seq (WS.ite (q := false) (.eqS (.var rfl) .str (by rw [mark_eq]; simp [hc])) (fun h => nomatch h) fun _ => ?_)
      refine WS.seq (WS.asg (d := .str (⟨Yd.toArray⟩ ++ ⟨#[c]⟩)) (.cat (.var (by exact e36)) (.var rfl) (by simp [Str.length]; omega)) trivial ?_)
      refine ih (Yd ++ [c]) _ e' e35 ?_ ?_ e28
      · show some (PV.int ((5 + (enc Yd).length + 1 : Nat) : Int)) = _
        rw [enc_append, List.length_append, show enc [c] = [c] by rw [enc, if_neg hc]; rfl]; rfl
      · show some (PV.str (⟨Yd.toArray⟩ ++ ⟨#[c]⟩)) = _
        congr 2
        apply Str.ext'
        rw [Str.cps_append]
        simp
end Cut20
namespace Cut20

theorem strsOf_map : ∀ l : List Str, strsOf (l.map .str) = some l
  | [] => rfl
  | x :: l => by
    show (strsOf (l.map .str)).map (x :: ·) = _
    rw [strsOf_map l]; rfl
section
variable {tab : Str → Option Int} {call : Nat → List PV → Cb → Prop} {σ : Sg} {a b : IE}
theorem Ev.join {s : Str} {l : List Str} (ha : Ev tab call a σ (.str s)) (hb : Ev tab call b σ (.list (l.map .str))) (h : (l.map (·.length)).sum + l.length * s.length ≤ 1000000) : Ev tab call (.join a b) σ (.str (Txt.join s l)) :=
  fun Q q => ha _ ⟨trivial, hb _ (by
    show match strsOf (l.map .str) with | some xs => _ | Option.none => False
    rw [strsOf_map]
    exact ⟨h, q⟩)⟩
theorem Ev.split {s u : Str} (ha : Ev tab call a σ (.str s)) (hb : Ev tab call b σ (.str u)) (h : (u.length == 0) = false) (h' : s.length ≤ 1000000) : Ev tab call (.split a b) σ (.list ((Txt.split s u).map .str)) :=
  fun Q q => ha _ ⟨trivial, hb _ ⟨h, h', q⟩⟩
theorem Ev.call1 {f : Nat} {x d : PV} (ha : Ev tab call a σ x) (hx : x.fz) (h : ∀ Q : Cb, Q d → call f [x] Q) : Ev tab call (.call1 f a) σ d := fun Q q => ha _ ⟨hx, h Q q⟩
end

theorem parse_ok {n : Nat} (Y : List Nat) (hY : (enc Y).length ≤ 1000) (resp : Str) (hD : resp.cps.toList = headL' ++ enc Y ++ tailL) (Q : Cb) (h : Q (.str ⟨Y.toArray⟩)) : CallW pw tabF (n + 1) 8 [.str resp] Q := by
  refine callW (f := Str.ofString "parse257") (by decide +kernel) c_isParse rfl ?_
  have h5 : headL'.length = 5 := by rw [headL_eq]; rfl
  have ht : tailL.length = 19 := by rw [tailL_eq]; rfl
  have hl : resp.cps.toList.length = 24 + (enc Y).length := by rw [hD, List.length_append, List.length_append, h5, ht]; omega
  have hl' : resp.length = resp.cps.toList.length := by simp [Str.length]
  have s1 : Txt.slice resp none (some 3) = Str.ofString "257" := by
    rw [eq_of_beq (slice_closes_to (x := resp) (j := 3) ⟨by decide, by rw [hl]; omega⟩), hD, headL_eq, show Str.ofString "257" = ⟨#[50, 53, 55]⟩ by decide +kernel]
    rfl
  have s2 : Txt.slice resp (some 3) (some 5) = Str.ofString " \"" := by
    rw [eq_of_beq (slice_closes (x := resp) (i := 3) (j := 5) ⟨by decide, by decide, by rw [hl]; omega⟩), hD, headL_eq, show Str.ofString " \"" = ⟨#[32, 34]⟩ by decide +kernel]
    rfl
  refine WS.seq (WS.ite (q := false) (.neS (.sliceToS (s := resp) (.var rfl) .int (by omega)) .str (by rw [s1]; simp)) (fun h => nomatch h) fun _ => ?_)
  refine WS.seq (WS.ite (q := false) (.neS (.slice (s := resp) (.var rfl) .int .int (by omega)) .str (by rw [s2]; simp)) (fun h => nomatch h) fun _ => ?_)
  refine WS.seq (WS.asg .str trivial (WS.seq (WS.asg .int trivial (WS.seq (WS.asg (d := .int (resp.cps.toList.length : Nat)) (hl' ▸ .lenS (s := resp) (.var rfl) (by omega)) trivial (WS.seq (whl_of (Y.length + 1) ?_)))))))
  refine whl_run Y hD (by omega) (fun τ e => WS.seq (WS.ret (.var e) h)) Y [] _ rfl rfl rfl ?_ rfl
  show some (PV.str (Str.ofString "")) = _
  rw [show Str.ofString "" = ⟨#[]⟩ by decide +kernel]

noncomputable def heardE : IE := .split (.call1 8 (.bin .add (.bin .add (.str (Str.ofString "257 \"")) (.join (.str (Str.ofString "\"\"")) (.var 31))) (.str (Str.ofString "\" from the least on")))) (.str (Str.ofString "\""))
theorem heard_ev {n : Nat} {σ : Sg} {one : List Str} (hne : one ≠ []) (hq : ∀ x ∈ one, 34 ∉ x.cps.toList) (h5 : ∀ x ∈ one, x.cps.toList.length ≤ 5) (hl : one.length ≤ 15) (e : σ 31 = some (.list (one.map .str))) :
    Ev tabF (CallW pw tabF (n + 1)) heardE σ (.list (one.map .str)) := by
  have len : ∀ l : List Str, (∀ x ∈ l, x.cps.toList.length ≤ 5) → (l.map (·.length)).sum ≤ 5 * l.length := by
    intro l
    induction l with
    | nil => intro _; simp
    | cons x l ih =>
      intro h
      have h1 := h x (.head _)
      have h2 := ih fun z hz => h z (.tail _ hz)
      have h3 : x.length = x.cps.toList.length := by simp [Str.length]
      simp only [List.map_cons, List.sum_cons, List.length_cons]
      omega
  have hs := len one h5
  have q2 : (Str.ofString "\"\"") = ⟨#[34, 34]⟩ := by decide +kernel
  have q2l : (Str.ofString "\"\"").length = 2 := by decide +kernel
  have jl : ∀ s : Str, (Txt.join s one).length ≤ 75 + 15 * s.length := fun s => by
    unfold Txt.join
    rw [StrLaws.glued_eq_join]
    refine Nat.le_trans (StrLaws.join_length_le s one) ?_
    have : one.length * s.length ≤ 15 * s.length := Nat.mul_le_mul_right _ hl
    omega
  have hh : (Str.ofString "257 \"").length = 5 := by decide +kernel
  have ht : (Str.ofString "\" from the least on").length = 19 := by decide +kernel
  have j2 := jl (Str.ofString "\"\"")
  rw [q2l] at j2
  have j1 := jl ⟨#[34]⟩
  rw [show (⟨#[34]⟩ : Str).length = 1 from rfl] at j1
  have jj : enc (jn [34] (one.map (·.cps.toList))) = (Txt.join (Str.ofString "\"\"") one).cps.toList := by
    rw [join_list, q2]
    refine jn_enc fun x hx => ?_
    obtain ⟨p, hp, rfl⟩ := List.mem_map.mp hx
    exact hq p hp
  have jY : (⟨(jn [34] (one.map (·.cps.toList))).toArray⟩ : Str) = Txt.join ⟨#[34]⟩ one := by
    refine (str_eq ?_).symm
    rw [join_list]
  unfold heardE
  have key : Ev tabF (CallW pw tabF (n + 1)) (.call1 8 (.bin .add (.bin .add (.str (Str.ofString "257 \"")) (.join (.str (Str.ofString "\"\"")) (.var 31))) (.str (Str.ofString "\" from the least on")))) σ (.str (Txt.join ⟨#[34]⟩ one)) := by
    refine .call1 (.cat (.cat .str (.join .str (.var e) (by rw [q2l]; omega)) (by rw [hh]; omega)) .str (by rw [Str.length_append, hh, ht]; omega)) trivial fun Q q => ?_
    refine parse_ok (jn [34] (one.map (·.cps.toList))) ?_ _ ?_ Q (by rw [jY]; exact q)
    · rw [jj]; have : (Txt.join (Str.ofString "\"\"") one).cps.toList.length = (Txt.join (Str.ofString "\"\"") one).length := by simp [Str.length]
      omega
    · rw [Str.cps_append, Str.cps_append, Array.toList_append, Array.toList_append, jj]; rfl
  have := Ev.split key (.str (s := Str.ofString "\"")) (by decide +kernel) (by omega)
  rwa [mark_eq, split_join hne hq, ← mark_eq] at this
end Cut20
namespace Cut20

/-! Ranks; a turn of the cut's loop. -/
noncomputable def likesV (lk : List (List Str)) : PV := .list (lk.map fun l => .list (l.map .str))
noncomputable def rank (row : Str) (lk : List (List Str)) (k : Nat) (p : Nat × Nat) : Nat := (lk.getD k []).idxOf (sub row p)
structure Lks (row : Str) (lk : List (List Str)) : Prop where
  good : GoodRow row
  five : lk.length = 5
  at_ : ∀ k, k < 5 → Likes row k (lk.getD k [])
/-- k is a member of the block p -/
noncomputable def mem (k : Nat) (p : Nat × Nat) : Prop := p.1 ≤ k ∧ k < p.2

theorem row_len {row : Str} (G : GoodRow row) : row.length = 5 := by have := G.five; simp [Str.length] at this ⊢; exact this
theorem mem_lk {row : Str} {lk : List (List Str)} (X : Lks row lk) {p : Nat × Nat} (hp : p ∈ blocksOf row) {k : Nat} (hk : mem k p) : sub row p ∈ lk.getD k [] := by
  have := mem_blocks.mp hp
  exact ((X.at_ k (by unfold mem at hk; omega)).mem _).mpr ⟨p, hp, hk.1, hk.2, rfl⟩
theorem rank_lt {row : Str} {lk : List (List Str)} (X : Lks row lk) {p : Nat × Nat} (hp : p ∈ blocksOf row) {k : Nat} (hk : mem k p) : rank row lk k p < 15 := by
  have h := List.idxOf_lt_length_of_mem (mem_lk X hp hk)
  have := mem_blocks.mp hp
  have l := (X.at_ k (by unfold mem at hk; omega)).len
  unfold rank
  omega
theorem getD_of {α : Type} {l : List α} {i : Nat} {d : α} (h : i < l.length) : l[i]? = some (l.getD i d) := by
  rw [List.getElem?_eq_getElem h, List.getD_eq_getElem?_getD, List.getElem?_eq_getElem h]; rfl
section
variable {tab : Str → Option Int} {call : Nat → List PV → Cb → Prop} {σ : Sg} {row : Str} {lk : List (List Str)} {p : Nat × Nat} {k K : Nat}
theorem slice_ev (G : GoodRow row) (hp : p.1 ≤ p.2 ∧ p.2 ≤ 5) (e3 : σ 3 = some (.str row)) (e10 : σ 10 = some (num p.1)) (e11 : σ 11 = some (num p.2)) : Ev tab call (.slice (.var 3) (.var 10) (.var 11)) σ (.str (sub row p)) := by
  have := Ev.slice (tab := tab) (call := call) (σ := σ) (a := .var 3) (b := .var 10) (c := .var 11) (s := row) (i := p.1) (j := p.2) (.var e3) (.var e10) (.var e11) (by rw [row_len G]; omega)
  rwa [slice_sub hp.1 (by rw [G.five]; exact hp.2)] at this
theorem rank_ev (X : Lks row lk) (hp : p ∈ blocksOf row) (hk : mem k p) (e13 : σ 13 = some (likesV lk)) (eK : σ K = some (num k)) (e3 : σ 3 = some (.str row)) (e10 : σ 10 = some (num p.1)) (e11 : σ 11 = some (num p.2)) :
    Ev tab call (.index (.idx (.var 13) (.var K)) (.slice (.var 3) (.var 10) (.var 11))) σ (num (rank row lk k p)) := by
  have hb := mem_blocks.mp hp
  have k5 : k < 5 := by unfold mem at hk; omega
  have L := X.at_ k k5
  refine Ev.index (l := lk.getD k []) (.idxL (ds := lk.map fun l : List Str => PV.list (l.map PV.str)) (i := k) (.var e13) (.var eK) (by omega) (by omega) ?_) (slice_ev X.good ⟨by omega, hb.2.1⟩ e3 e10 e11) (fun x hx => ?_) (mem_lk X hp hk) (by have := L.len; omega)
  · rw [Int.toNat_natCast, List.getElem?_map, getD_of (d := []) (by rw [X.five]; exact k5)]; rfl
  · obtain ⟨p', _, _, _, rfl⟩ := (L.mem x).mp hx
    exact sub_ok X.good p'
theorem num_at {l : List Nat} {i : Nat} (h : i < l.length) : (l.map num)[((i : Nat) : Int).toNat]? = some (num (l.getD i 0)) := by
  rw [Int.toNat_natCast, List.getElem?_map, getD_of (d := 0) h]; rfl
theorem pr_at {l : List (Nat × Nat)} {i : Nat} (h : i < l.length) : (l.map pr)[((i : Nat) : Int).toNat]? = some (pr (l.getD i (0, 0))) := by
  rw [Int.toNat_natCast, List.getElem?_map, getD_of (d := (0, 0)) h]; rfl
end
theorem num_inj {a b : Nat} (h : num a = num b) : a = b := by
  have := PV.int.inj h; omega
theorem pr_inj {p q : Nat × Nat} (h : pr p = pr q) : p = q := by
  unfold pr at h
  simp only [PV.tup.injEq, List.cons.injEq, and_true] at h
  exact Prod.ext (num_inj h.1) (num_inj h.2)
theorem pr_ok (n : Nat) (p : Nat × Nat) : eqOk (n + 1) (pr p) = true := by
  show [num p.1, num p.2].all (eqOk n) = true
  cases n <;> rfl
theorem prs_ok (n : Nat) (l : List (Nat × Nat)) : eqOk (n + 2) (.list (l.map pr)) = true := by
  show (l.map pr).all (eqOk (n + 1)) = true
  rw [List.all_map, List.all_eq_true]
  exact fun p _ => pr_ok n p
theorem nums_ok (n : Nat) (l : List Nat) : eqOk (n + 1) (.list (l.map num)) = true := by
  show (l.map num).all (eqOk n) = true
  rw [List.all_map, List.all_eq_true]
  intro p _
  cases n <;> rfl
theorem list_nil {α : Type} (f : α → PV) (l : List α) : l.isEmpty = true ↔ PV.list (l.map f) = PV.list [] := by
  cases l <;> simp

/-! The order, the fronts, the ends. -/
noncomputable def ord (r : Nat) : List Nat := List.range r ++ ((List.range' (r + 1) (4 - r)).reverse ++ [r])
noncomputable def fronts (r k : Nat) : List Nat := if k ≤ r then List.range (k + 1) else [k]
noncomputable def ends (r k : Nat) : List Nat := if r ≤ k then List.range' (k + 1) (6 - (k + 1)) else [k + 1]
noncomputable def full (r k : Nat) : List (Nat × Nat) := (fronts r k).flatMap fun a => (ends r k).map fun b => (a, b)
noncomputable def mine (row : Str) (r k : Nat) : List (Nat × Nat) := (full r k).filter (isB row)
theorem mem_fronts {r k a : Nat} : a ∈ fronts r k ↔ if k ≤ r then a ≤ k else a = k := by
  unfold fronts
  split
  · rw [List.mem_range]; omega
  · simp
theorem mem_ends {r k b : Nat} (hk : k < 5) : b ∈ ends r k ↔ if r ≤ k then k < b ∧ b ≤ 5 else b = k + 1 := by
  unfold ends
  split
  · rw [List.mem_range'_1]; omega
  · simp
theorem mem_full {r k : Nat} {p : Nat × Nat} : p ∈ full r k ↔ p.1 ∈ fronts r k ∧ p.2 ∈ ends r k := by
  unfold full
  simp only [List.mem_flatMap, List.mem_map]
  constructor
  · rintro ⟨a, ha, b, hb, rfl⟩; exact ⟨ha, hb⟩
  · intro h; exact ⟨p.1, h.1, p.2, h.2, rfl⟩
theorem mem_mine {row : Str} {r k : Nat} (hk : k < 5) {p : Nat × Nat} : p ∈ mine row r k ↔ p ∈ blocksOf row ∧ mem k p ∧ p.1 ∈ fronts r k ∧ p.2 ∈ ends r k := by
  unfold mine mem
  rw [List.mem_filter, mem_full, mem_blocks, mem_fronts, mem_ends hk]
  constructor
  · rintro ⟨⟨h1, h2⟩, h3⟩
    refine ⟨⟨?_, ?_, h3⟩, ⟨?_, ?_⟩, h1, h2⟩ <;> (split at h1 <;> split at h2 <;> omega)
  · rintro ⟨h1, h2, h3, h4⟩; exact ⟨⟨h3, h4⟩, h1.2.2⟩
noncomputable def key (p : Nat × Nat) : Int := ((6 * p.1 + p.2 : Nat) : Int)
theorem full_keys : ∀ r, r < 5 → ∀ k, k < 5 → ((full r k).map fun p => 6 * p.1 + p.2).Nodup := by decide +kernel
theorem mine_keys {row : Str} {r k : Nat} (hr : r < 5) (hk : k < 5) : ((mine row r k).map key).Nodup := by
  have h : ((mine row r k).map fun p => 6 * p.1 + p.2).Nodup := (full_keys r hr k hk).sublist (List.Sublist.map _ List.filter_sublist)
  have e : (mine row r k).map key = ((mine row r k).map fun p => 6 * p.1 + p.2).map fun n : Nat => (n : Int) := by rw [List.map_map]; rfl
  rw [e]
  exact List.Pairwise.map _ (fun a b h => by omega) h
theorem mine_len {row : Str} {r k : Nat} (hr : r < 5) (hk : k < 5) : (mine row r k).length ≤ 25 := by
  have : ∀ r, r < 5 → ∀ k, k < 5 → (full r k).length ≤ 25 := by decide +kernel
  exact Nat.le_trans (List.length_filter_le _ _) (this r hr k hk)
/-- what stands ahead of k in the order -/
noncomputable def ahead (r k j : Nat) : Prop := if k < r then j < k else if r < k then j < r ∨ k < j else j ≠ r
noncomputable def aheadB (r k j : Nat) : Bool := if k < r then decide (j < k) else if r < k then decide (j < r) || decide (k < j) else decide (j ≠ r)
theorem aheadB_iff {r k j : Nat} : aheadB r k j = true ↔ ahead r k j := by
  unfold aheadB ahead
  split
  · simp
  · split <;> simp
theorem ord_ahead : ∀ r, r < 5 → ∀ i, i < 5 → (ord r).getD i 0 < 5 ∧ ∀ j, j < 5 → (j ∈ (ord r).take i ↔ aheadB r ((ord r).getD i 0) j = true) := by decide +kernel
theorem ord_len : ∀ r, r < 5 → (ord r).length = 5 := by decide +kernel
theorem ord_all : ∀ r, r < 5 → ∀ k, k < 5 → k ∈ ord r := by decide +kernel
theorem ord_five : ∀ r, r < 5 → ∀ k ∈ ord r, k < 5 := by decide +kernel
theorem ord_at {r : Nat} (hr : r < 5) {pre post : List Nat} {k : Nat} (e : ord r = pre ++ k :: post) : k < 5 ∧ ∀ j, j < 5 → (j ∈ pre ↔ ahead r k j) := by
  have hl := ord_len r hr
  have hi : pre.length < 5 := by rw [e] at hl; simp at hl; omega
  have : (ord r).getD pre.length 0 < 5 ∧ ∀ j, j < 5 → (j ∈ (ord r).take pre.length ↔ ahead r ((ord r).getD pre.length 0) j) := ⟨(ord_ahead r hr pre.length hi).1, fun j hj => ((ord_ahead r hr pre.length hi).2 j hj).trans aheadB_iff⟩
  rw [e] at this
  simpa [List.getD_eq_getElem?_getD] using this
/-- the blocks over k whose members all stand ahead, but k -/
theorem mine_iff {row : Str} {r k : Nat} (hk : k < 5) (hr : r < 5) {p : Nat × Nat} (hp : p ∈ blocksOf row) (hm : mem k p) : p ∈ mine row r k ↔ ∀ j, mem j p → j ≠ k → ahead r k j := by
  rw [mem_mine hk, mem_fronts, mem_ends hk]
  have hb := mem_blocks.mp hp
  unfold mem ahead at *
  constructor
  · rintro ⟨_, _, h1, h2⟩ j hj hne
    split at h1 <;> split at h2 <;> (repeat' split) <;> omega
  · intro h
    refine ⟨hp, hm, ?_, ?_⟩
    · split
      · exact hm.1
      · rename_i hkr
        have h1 := h p.1 ⟨Nat.le_refl _, hb.1⟩
        have h2 := h r
        rw [if_neg (by omega), if_pos (by omega)] at h1 h2
        omega
    · split
      · omega
      · rename_i hkr
        have h1 := h (p.2 - 1) ⟨by omega, by omega⟩
        rw [if_pos (by omega)] at h1
        omega
end Cut20
namespace Cut20

noncomputable def cutBody : IS := (.seq 
  (.asg 18 (.ite (.cmp .le (.var 2) (.var 14)) (.range1 (.bin .add (.var 2) (.int 1))) (.list1 (.var 2)))) (.seq 
  (.asg 19 (.ite (.cmp .ge (.var 2) (.var 14)) (.range2 (.bin .add (.var 2) (.int 1)) (.int 6)) (.list1 (.bin .add (.var 2) (.int 1))))) (.seq 
  (.asg 20 (.comp2 (.tup2 (.var 10) (.var 11)) (.one 10) (.var 18) (.one 11) (.var 19) true (.inTab (.slice (.var 3) (.var 10) (.var 11))) [19, 3])) (.seq 
  (.asg 21 (.comp (.tup2 (.var 10) (.var 11)) (.two 10 11) (.var 20) true (.cmp .eq (.comp (.var 24) (.one 24) (.range2 (.var 10) (.var 11)) true (.and (.cmp .ne (.var 24) (.var 2)) (.cmp .lt (.index (.idx (.var 13) (.var 24)) (.slice (.var 3) (.var 10) (.var 11))) (.idx (.var 16) (.var 24)))) [10, 11, 2, 13, 3, 16]) IE.nil) [2, 13, 3, 16])) (.seq 
  (.asg 22 (.dcomp (.bin .add (.bin .mul (.int 6) (.var 10)) (.var 11)) (.ite (.cmp .isin (.tup2 (.var 10) (.var 11)) (.var 21)) (.bin .pow (.int 10) (.bin .add (.int 3) (.index (.idx (.var 13) (.var 2)) (.slice (.var 3) (.var 10) (.var 11))))) IE.none) (.two 10 11) (.var 20) [21, 2, 13, 3])) (.seq 
  (.setI 16 (.var 2) (.bin .sub (.call1 7 (.var 22)) (.int 4))) (.seq 
  (.setI 17 (.var 2) (.idx (.comp (.tup2 (.var 10) (.var 11)) (.two 10 11) (.var 21) true (.cmp .eq (.index (.idx (.var 13) (.var 2)) (.slice (.var 3) (.var 10) (.var 11))) (.idx (.var 16) (.var 2))) [2, 13, 3, 16]) (.int 0))) .nop)))))))

/-- what the names hold between the turns -/
structure CS (row : Str) (lk : List (List Str)) (r : Nat) (sure : List Nat) (taken : List (Nat × Nat)) (τ : Sg) : Prop where
  e3 : τ 3 = some (.str row)
  e13 : τ 13 = some (likesV lk)
  e14 : τ 14 = some (num r)
  e15 : τ 15 = some (.list ((ord r).map num))
  e16 : τ 16 = some (.cur (sure.map num))
  e17 : τ 17 = some (.cur (taken.map pr))
  s5 : sure.length = 5
  t5 : taken.length = 5

/-- nobody but k likes p less than is sure -/
noncomputable def fitB (row : Str) (lk : List (List Str)) (sure : List Nat) (k : Nat) (p : Nat × Nat) : Bool := ((List.range' p.1 (p.2 - p.1)).filter fun j => decide (j ≠ k) && decide (rank row lk j p < sure.getD j 0)).isEmpty
theorem fitB_iff {row : Str} {lk : List (List Str)} {sure : List Nat} {k : Nat} {p : Nat × Nat} : fitB row lk sure k p = true ↔ ∀ j, mem j p → j ≠ k → sure.getD j 0 ≤ rank row lk j p := by
  unfold fitB mem
  rw [List.isEmpty_iff, List.filter_eq_nil_iff]
  constructor
  · intro h j hj hne
    have := h j (by rw [List.mem_range'_1]; omega)
    simp only [Bool.and_eq_true, decide_eq_true_eq, not_and, Nat.not_lt] at this
    exact this hne
  · intro h j hj
    rw [List.mem_range'_1] at hj
    simp only [Bool.and_eq_true, decide_eq_true_eq, not_and, Nat.not_lt]
    exact h j (by omega)
theorem exists_max {α : Type} (f : α → Nat) : ∀ l : List α, l ≠ [] → ∃ p ∈ l, ∀ q ∈ l, f q ≤ f p
  | [], h => absurd rfl h
  | [x], _ => ⟨x, .head _, fun q hq => by simp at hq; subst hq; exact Nat.le_refl _⟩
  | x :: y :: r, _ => by
    obtain ⟨p, hp, h⟩ := exists_max f (y :: r) (List.cons_ne_nil _ _)
    by_cases hx : f p ≤ f x
    · refine ⟨x, .head _, fun q hq => ?_⟩
      rcases List.mem_cons.mp hq with rfl | hq
      · exact Nat.le_refl _
      · exact Nat.le_trans (h q hq) hx
    · refine ⟨p, .tail _ hp, fun q hq => ?_⟩
      rcases List.mem_cons.mp hq with rfl | hq
      · omega
      · exact h q hq
theorem one_block {row : Str} (G : GoodRow row) {k : Nat} (hk : k < 5) : (k, k + 1) ∈ blocksOf row := by
  refine mem_blocks.mpr ⟨by simp, by simp; omega, ?_⟩
  have hl := sub_len G (p := (k, k + 1)) (mem_all.mpr ⟨by simp, by simp; omega⟩)
  have hs := sub_signs G (k, k + 1)
  match hL : (sub row (k, k + 1)).cps.toList, hl with
  | [c], _ =>
    unfold isB
    rw [str_eq hL]
    exact one_is c (hs c (by rw [hL]; exact .head _))
  | [], h => simp at h
  | _ :: _ :: _, h => simp at h
theorem digits : ∀ R : Nat, R < 15 → (Str.ofString (toString ((10 : Int) ^ (3 + R)))).length = 4 + R := by decide +kernel
theorem pow_le {a b : Nat} (h : a ≤ b) : (10 : Int) ^ a ≤ 10 ^ b := by
  have := Nat.pow_le_pow_right (n := 10) (by decide) h
  have e : ∀ n : Nat, (10 : Int) ^ n = ((10 ^ n : Nat) : Int) := fun n => by simp
  rw [e, e]; exact_mod_cast this

section
variable {n : Nat} {row : Str} {lk : List (List Str)} {r k : Nat} {sure : List Nat} {taken : List (Nat × Nat)} {τ : Sg}
theorem fronts_ev {call : Nat → List PV → Cb → Prop} (hk : k < 5) (e2 : τ 2 = some (num k)) (e14 : τ 14 = some (num r)) : ∃ x, Ev tabF call (.ite (.cmp .le (.var 2) (.var 14)) (.range1 (.bin .add (.var 2) (.int 1))) (.list1 (.var 2))) τ x ∧ x.fz ∧ x.items = some ((fronts r k).map num) := by
  unfold fronts
  by_cases h : k ≤ r
  · rw [if_pos h]
    exact ⟨.rng 0 ((k + 1 : Nat) : Int) 1, .ite (s := true) (.le (.var e2) (.var e14) (by simp; omega)) (fun _ => .range1 (i := ((k + 1 : Nat) : Int)) (.add (i := (k : Int)) (j := 1) (.var e2) .int) (by unfold sml; omega)) (fun h => nomatch h), trivial, rng0_items _⟩
  · rw [if_neg h]
    exact ⟨.list [num k], .ite (s := false) (.le (.var e2) (.var e14) (by simp; omega)) (fun h => nomatch h) (fun _ => .list1 (.var e2) trivial), trivial, rfl⟩
theorem ends_ev {call : Nat → List PV → Cb → Prop} (hk : k < 5) (e2 : τ 2 = some (num k)) (e14 : τ 14 = some (num r)) : ∃ x, Ev tabF call (.ite (.cmp .ge (.var 2) (.var 14)) (.range2 (.bin .add (.var 2) (.int 1)) (.int 6)) (.list1 (.bin .add (.var 2) (.int 1)))) τ x ∧ x.fz ∧ x.items = some ((ends r k).map num) := by
  unfold ends
  by_cases h : r ≤ k
  · rw [if_pos h]
    exact ⟨.rng ((k + 1 : Nat) : Int) ((6 : Nat) : Int) 1, .ite (s := true) (.ge (.var e2) (.var e14) (by simp; omega)) (fun _ => .range2 (.add (i := (k : Int)) (j := 1) (.var e2) .int) .int (by unfold sml; omega) (by unfold sml; omega)) (fun h => nomatch h), trivial, rngN_items _ _⟩
  · rw [if_neg h]
    exact ⟨.list [num (k + 1)], .ite (s := false) (.ge (.var e2) (.var e14) (by simp; omega)) (fun h => nomatch h) (fun _ => .list1 (.add (i := (k : Int)) (j := 1) (.var e2) .int) trivial), trivial, rfl⟩
end
end Cut20
namespace Cut20

section
variable {n : Nat} {row : Str} {lk : List (List Str)} {r k : Nat} {sure : List Nat} {taken : List (Nat × Nat)} {τ : Sg} {call : Nat → List PV → Cb → Prop}
theorem mine_ev (X : Lks row lk) (hk : k < 5) {x y : PV} (e3 : τ 3 = some (.str row)) (e18 : τ 18 = some x) (hx : x.items = some ((fronts r k).map num)) (e19 : τ 19 = some y) (hy : y.items = some ((ends r k).map num)) :
    Ev tabF call (.comp2 (.tup2 (.var 10) (.var 11)) (.one 10) (.var 18) (.one 11) (.var 19) true (.inTab (.slice (.var 3) (.var 10) (.var 11))) [19, 3]) τ (.list ((mine row r k).map pr)) := by
  have e : (mine row r k).map pr = (fronts r k).flatMap fun a => ((ends r k).filter fun b => isB row (a, b)).map fun b => pr (a, b) := by
    unfold mine full
    rw [List.filter_flatMap, List.map_flatMap]
    congr 1
    funext a
    rw [List.filter_map, List.map_map]
    rfl
  have fl : ∀ r k : Nat, k < 5 → (fronts r k).length ≤ 5 := fun r k hk => by unfold fronts; split <;> simp; omega
  have el : ∀ r k : Nat, k < 5 → (ends r k).length ≤ 5 := fun r k hk => by unfold ends; split <;> simp
  rw [e]
  refine Ev.comp2 (fun _ => ends r k) num num (fun a b => isB row (a, b)) (fun a b => pr (a, b)) (.var e18) hx (by have := fl r k hk; omega) fun a ha => ⟨upd (restr τ [19, 3]) 10 (num a), y, rfl, .var (show restr τ [19, 3] 19 = _ from e19), hy, by have := el r k hk; omega, fun b hb => ?_⟩
  refine ⟨upd (upd (restr τ [19, 3]) 10 (num a)) 11 (num b), rfl, .inTab (slice_ev (p := (a, b)) X.good ?_ (show restr τ [19, 3] 3 = _ from e3) rfl rfl), fun _ => ⟨.tup2 (.var rfl) (.var rfl) trivial trivial, trivial⟩⟩
  rw [mem_fronts] at ha
  rw [mem_ends hk] at hb
  split at ha <;> split at hb <;> simp <;> omega
theorem fit_ev (X : Lks row lk) (hk : k < 5) (S : CS row lk r sure taken τ) (e2 : τ 2 = some (num k)) (e20 : τ 20 = some (.list ((mine row r k).map pr))) (hr : r < 5) :
    Ev tabF call (.comp (.tup2 (.var 10) (.var 11)) (.two 10 11) (.var 20) true (.cmp .eq (.comp (.var 24) (.one 24) (.range2 (.var 10) (.var 11)) true (.and (.cmp .ne (.var 24) (.var 2)) (.cmp .lt (.index (.idx (.var 13) (.var 24)) (.slice (.var 3) (.var 10) (.var 11))) (.idx (.var 16) (.var 24)))) [10, 11, 2, 13, 3, 16]) IE.nil) [2, 13, 3, 16]) τ
      (.list (((mine row r k).filter (fitB row lk sure k)).map pr)) := by
  refine Ev.comp pr (fitB row lk sure k) pr (.var e20) rfl (by have := mine_len (row := row) hr hk; omega) fun p hp => ?_
  let τ' : Sg := upd (upd (restr τ [2, 13, 3, 16]) 10 (num p.1)) 11 (num p.2)
  refine ⟨τ', rfl, ?_, fun _ => ⟨.tup2 (.var rfl) (.var rfl) trivial trivial, trivial⟩⟩
  obtain ⟨hb, hm, _⟩ := (mem_mine hk).mp hp
  have hb' := mem_blocks.mp hb
  refine Ev.eqL (i := ((List.range' p.1 (p.2 - p.1)).filter fun j => decide (j ≠ k) && decide (rank row lk j p < sure.getD j 0)).map num) (j := []) ?_ .nil (nums_ok 7 _) rfl (list_nil num _)
  refine Ev.comp (x := .rng (p.1 : Int) (p.2 : Int) 1) num _ num (.range2 (.var rfl) (.var rfl) (by unfold sml; omega) (by unfold sml; omega)) (rngN_items _ _) (by simp; omega) fun j hj => ?_
  rw [List.mem_range'_1] at hj
  have hjm : mem j p := ⟨hj.1, by omega⟩
  let τ2 : Sg := upd (restr τ' [10, 11, 2, 13, 3, 16]) 24 (num j)
  refine ⟨τ2, rfl, .and (.ne (i := (j : Int)) (j := (k : Int)) (.var rfl) (.var (show τ 2 = _ from e2)) (by rw [decide_eq_true_eq]; omega)) fun _ => .lt (i := (rank row lk j p : Int)) (j := (sure.getD j 0 : Int)) ?_ ?_ (by simp), fun _ => ⟨.var rfl, trivial⟩⟩
  · exact rank_ev X hb hjm (show τ 13 = _ from S.e13) rfl (show τ 3 = _ from S.e3) rfl rfl
  · exact Ev.idxC (i := (j : Int)) (.var (show τ 16 = _ from S.e16)) (.var rfl) (by omega) (by omega) (num_at (by rw [S.s5]; omega))
end
end Cut20
namespace Cut20

section
variable {n : Nat} {row : Str} {lk : List (List Str)} {r k : Nat} {sure : List Nat} {taken : List (Nat × Nat)} {τ : Sg} {call : Nat → List PV → Cb → Prop}
noncomputable def lineV (row : Str) (lk : List (List Str)) (sure : List Nat) (k : Nat) (p : Nat × Nat) : PV := if fitB row lk sure k p then .int (10 ^ (3 + rank row lk k p)) else .none
theorem lines_ev (X : Lks row lk) (hk : k < 5) (e2 : τ 2 = some (num k)) (e3 : τ 3 = some (.str row)) (e13 : τ 13 = some (likesV lk)) (e20 : τ 20 = some (.list ((mine row r k).map pr))) (e21 : τ 21 = some (.list (((mine row r k).filter (fitB row lk sure k)).map pr))) (hr : r < 5) :
    Ev tabF call (.dcomp (.bin .add (.bin .mul (.int 6) (.var 10)) (.var 11)) (.ite (.cmp .isin (.tup2 (.var 10) (.var 11)) (.var 21)) (.bin .pow (.int 10) (.bin .add (.int 3) (.index (.idx (.var 13) (.var 2)) (.slice (.var 3) (.var 10) (.var 11))))) IE.none) (.two 10 11) (.var 20) [21, 2, 13, 3]) τ
      (.dict ((mine row r k).map fun p => (key p, lineV row lk sure k p))) := by
  refine Ev.dcomp pr key (lineV row lk sure k) (.var e20) rfl (by have := mine_len (row := row) hr hk; omega) (fun p hp => ?_) (mine_keys hr hk)
  obtain ⟨hb, hm, _⟩ := (mem_mine hk).mp hp
  have hb' := mem_blocks.mp hb
  have hR := rank_lt X hb hm
  refine ⟨upd (upd (restr τ [21, 2, 13, 3]) 10 (num p.1)) 11 (num p.2), rfl, ?_, ?_, ?_⟩
  · have : key p = (6 : Int) * (p.1 : Int) + (p.2 : Int) := by unfold key; omega
    rw [this]
    exact .add (i := (6 : Int) * (p.1 : Int)) (j := (p.2 : Int)) (.mul (i := 6) (j := (p.1 : Int)) .int (.var rfl) (by unfold sml; omega) (by unfold sml; omega)) (.var rfl)
  · unfold lineV
    refine .ite (s := fitB row lk sure k p) (.isinTL (us := [num p.1, num p.2]) (ds := ((mine row r k).filter (fitB row lk sure k)).map pr) (.tup2 (.var rfl) (.var rfl) trivial trivial) (.var (show τ 21 = _ from e21)) (pr_ok 7 p) (prs_ok 6 _) ?_) (fun h => ?_) fun h => ?_
    · show _ ↔ pr p ∈ _
      constructor
      · intro h; exact List.mem_map_of_mem (List.mem_filter.mpr ⟨hp, h⟩)
      · intro h
        obtain ⟨q, hq, e⟩ := List.mem_map.mp h
        rw [← pr_inj e]; exact (List.mem_filter.mp hq).2
    · rw [if_pos h]
      have e : (10 : Int) ^ (3 + rank row lk k p) = 10 ^ (((3 + rank row lk k p : Nat) : Int)).toNat := by rw [Int.toNat_natCast]
      rw [e]
      refine .pow10 (i := 10) (j := ((3 + rank row lk k p : Nat) : Int)) .int ?_ rfl (by omega) (by omega)
      have : ((3 + rank row lk k p : Nat) : Int) = 3 + ((rank row lk k p : Nat) : Int) := by omega
      rw [this]
      exact .add .int (rank_ev X hb hm (show τ 13 = _ from e13) (show τ 2 = _ from e2) (show τ 3 = _ from e3) rfl rfl)
    · rw [h]; exact .none
  · unfold lineV; split <;> trivial
/-- the width of the lines tells the best fit block's rank -/
theorem width_ev (X : Lks row lk) (hk : k < 5) (hr : r < 5) {p : Nat × Nat} (hp : p ∈ mine row r k) (hf : fitB row lk sure k p = true) (hmax : ∀ q ∈ mine row r k, fitB row lk sure k q = true → rank row lk k q ≤ rank row lk k p) (Q : Cb) (h : Q (.int ((4 + rank row lk k p : Nat) : Int))) :
    CallW pw tabF (n + 1) 7 [.dict ((mine row r k).map fun p => (key p, lineV row lk sure k p))] Q := by
  obtain ⟨hb, hm, _⟩ := (mem_mine hk).mp hp
  have hR := rank_lt X hb hm
  have vals : (((mine row r k).map fun p => (key p, lineV row lk sure k p)).map (·.2)) = (mine row r k).map (lineV row lk sure k) := by rw [List.map_map]; rfl
  have mem_v : ∀ m, m ∈ ((mine row r k).map (lineV row lk sure k)).filterMap some? ↔ ∃ q ∈ mine row r k, fitB row lk sure k q = true ∧ m = 10 ^ (3 + rank row lk k q) := by
    intro m
    rw [List.filterMap_map, List.mem_filterMap]
    constructor
    · rintro ⟨q, hq, e⟩
      refine ⟨q, hq, ?_⟩
      simp only [Function.comp, lineV] at e
      split at e
      · rename_i hf
        refine ⟨hf, ?_⟩
        unfold some? at e
        dsimp only at e
        split at e
        · cases e
        · cases e; rfl
      · cases e
    · rintro ⟨q, hq, hf, rfl⟩
      refine ⟨q, hq, ?_⟩
      simp only [Function.comp, lineV, hf, if_true]
      unfold some?
      dsimp only
      rw [if_neg]
      have := Int.pow_pos (n := 10) (m := 3 + rank row lk k q) (by decide)
      omega
  have pin : (10 : Int) ^ (3 + rank row lk k p) ∈ ((mine row r k).map (lineV row lk sure k)).filterMap some? := (mem_v _).mpr ⟨p, hp, hf, rfl⟩
  open Classical in
  refine width_some _ Q (by rw [List.length_map]; have := mine_len (row := row) hr hk; omega) ?_ (decide (PV.none ∈ (((mine row r k).map fun p => (key p, lineV row lk sure k p)).map (·.2)))) (by rw [decide_eq_true_eq]) ?_ ?_
  · rw [List.all_map, List.all_eq_true]
    intro q _
    show valOk (lineV row lk sure k q) = true
    unfold lineV; split <;> rfl
  · rw [vals]
    exact List.ne_nil_of_mem pin
  · rw [vals]
    intro m h1 h2
    have e : m = 10 ^ (3 + rank row lk k p) := by
      obtain ⟨q, hq, hqf, rfl⟩ := (mem_v m).mp h1
      exact Int.le_antisymm (pow_le (by have := hmax q hq hqf; omega)) (h2 _ pin)
    subst e
    rw [digits _ hR]
    refine ⟨Int.le_of_lt (Int.pow_pos (by decide)), ?_, by omega, ?_⟩
    · refine Int.lt_of_le_of_lt (pow_le (b := 20) (by omega)) (by decide +kernel)
    · unfold widOf
      rw [if_pos (by omega)]
      exact h
/-- a turn of the cut's loop -/
theorem cut_turn (X : Lks row lk) (hk : k < 5) (hr : r < 5) (S : CS row lk r sure taken τ) {K B : Sg → Prop} {R : Cb}
    (hK : ∀ T τ', T ∈ mine row r k → fitB row lk sure k T = true → (∀ q ∈ mine row r k, fitB row lk sure k q = true → rank row lk k q ≤ rank row lk k T) → CS row lk r (sure.set k (rank row lk k T)) (taken.set k T) τ' → K τ') :
    WS tabF (CallW pw tabF (n + 1)) cutBody (upd τ 2 (num k)) K B R := by
  have own : (k, k + 1) ∈ mine row r k := (mine_iff hk hr (one_block X.good hk) ⟨Nat.le_refl _, Nat.lt_succ_self _⟩).mpr fun j hj hne => by unfold mem at hj; omega
  have ownf : fitB row lk sure k (k, k + 1) = true := fitB_iff.mpr fun j hj hne => by unfold mem at hj; omega
  obtain ⟨p, hp, hmax⟩ := exists_max (rank row lk k) ((mine row r k).filter (fitB row lk sure k)) (List.ne_nil_of_mem (List.mem_filter.mpr ⟨own, ownf⟩))
  obtain ⟨hp, hpf⟩ := List.mem_filter.mp hp
  have hmax' : ∀ q ∈ mine row r k, fitB row lk sure k q = true → rank row lk k q ≤ rank row lk k p := fun q hq hf => hmax q (List.mem_filter.mpr ⟨hq, hf⟩)
  obtain ⟨x, ex, xf, hx⟩ := fronts_ev (τ := upd τ 2 (num k)) (call := CallW pw tabF (n + 1)) (r := r) hk rfl S.e14
  refine WS.seq (WS.asg ex xf ?_)
  obtain ⟨y, ey, yf, hy⟩ := ends_ev (τ := upd (upd τ 2 (num k)) 18 x) (call := CallW pw tabF (n + 1)) (r := r) hk rfl S.e14
  refine WS.seq (WS.asg ey yf (WS.seq (WS.asg (mine_ev X hk (r := r) S.e3 rfl hx rfl hy) trivial ?_)))
  refine WS.seq (WS.asg (fit_ev (sure := sure) (taken := taken) X hk ⟨S.e3, S.e13, S.e14, S.e15, S.e16, S.e17, S.s5, S.t5⟩ rfl rfl hr) trivial ?_)
  refine WS.seq (WS.asg (lines_ev (sure := sure) X hk rfl S.e3 S.e13 rfl rfl hr) trivial ?_)
  refine WS.seq (WS.setI (d := num (rank row lk k p)) (ds := sure.map num) (j := (k : Int)) ?_ S.e16 (.var rfl) trivial (by omega) (by rw [List.length_map, S.s5]; omega) (by rw [List.length_map, S.s5]; omega) ?_)
  · have e : num (rank row lk k p) = .int (((4 + rank row lk k p : Nat) : Int) - 4) := by unfold num; congr 1; omega
    rw [e]
    exact .sub (.call1 (.var rfl) trivial fun Q q => width_ev X hk hr hp hpf hmax' Q q) .int
  · let L := ((mine row r k).filter (fitB row lk sure k)).filter fun q => decide (rank row lk k q = rank row lk k p)
    have pL : p ∈ L := List.mem_filter.mpr ⟨List.mem_filter.mpr ⟨hp, hpf⟩, by simp⟩
    obtain ⟨T, rest, hL⟩ : ∃ T rest, L = T :: rest := by
      cases h : L with
      | nil => rw [h] at pL; cases pL
      | cons T rest => exact ⟨T, rest, rfl⟩
    have TL : T ∈ L := by rw [hL]; exact .head _
    obtain ⟨T1, T2⟩ := List.mem_filter.mp TL
    obtain ⟨T3, T4⟩ := List.mem_filter.mp T1
    rw [decide_eq_true_eq] at T2
    refine WS.seq (WS.setI (d := pr T) (ds := taken.map pr) (j := (k : Int)) ?_ S.e17 (.var rfl) trivial (by omega) (by rw [List.length_map, S.t5]; omega) (by rw [List.length_map, S.t5]; omega) ?_)
    · refine .idxL (ds := L.map pr) (i := 0) ?_ .int (by decide) (by decide) (by rw [hL]; rfl)
      refine Ev.comp pr (fun q => decide (rank row lk k q = rank row lk k p)) pr (.var rfl) rfl (by have := mine_len (row := row) hr hk; have := List.length_filter_le (fitB row lk sure k) (mine row r k); omega) fun q hq => ?_
      obtain ⟨hq, hqf⟩ := List.mem_filter.mp hq
      obtain ⟨hb, hm, _⟩ := (mem_mine hk).mp hq
      refine ⟨_, rfl, .eq (i := (rank row lk k q : Int)) (j := (rank row lk k p : Int)) (rank_ev X hb hm S.e13 rfl S.e3 rfl rfl) (.idxC (i := (k : Int)) (ds := (sure.map num).set k (num (rank row lk k p))) (.var rfl) (.var rfl) (by omega) (by omega) ?_) (by rw [decide_eq_true_eq]; omega), fun _ => ⟨.tup2 (.var rfl) (.var rfl) trivial trivial, trivial⟩⟩
      rw [Int.toNat_natCast, List.getElem?_set_self (by rw [List.length_map, S.s5]; omega)]
      rfl
    · refine hK T _ T3 T4 (fun q hq hf => T2 ▸ hmax' q hq hf) ⟨S.e3, S.e13, S.e14, S.e15, ?_, ?_, by simpa using S.s5, by simpa using S.t5⟩
      · show some (PV.cur ((sure.map num).set k (num (rank row lk k p)))) = _
        rw [T2, List.map_set]
      · show some (PV.cur ((taken.map pr).set k (pr T))) = _
        rw [List.map_set]
end
end Cut20
namespace Cut20

/-! The cut. -/
theorem getD_set {α : Type} {l : List α} {k j : Nat} {v d : α} (h : k < l.length) : (l.set k v).getD j d = if j = k then v else l.getD j d := by
  rw [List.getD_eq_getElem?_getD, List.getD_eq_getElem?_getD, List.getElem?_set]
  by_cases e : j = k
  · subst e; simp [h]
  · rw [if_neg e, if_neg (fun e' => e e'.symm)]

/-- a cut that no block upsets, by what its members are sure of -/
structure CutGood (row : Str) (lk : List (List Str)) (M : List (Nat × Nat)) : Prop where
  len : M.length ≤ 5
  sure : ∃ sure : List Nat, (∀ p ∈ M, p ∈ blocksOf row ∧ ∀ j, mem j p → sure.getD j 0 ≤ rank row lk j p) ∧ ∀ p ∈ blocksOf row, ∃ j, mem j p ∧ rank row lk j p ≤ sure.getD j 0
  all : ∀ k, k < 5 → ∃ p ∈ M, mem k p

structure Mid (row : Str) (lk : List (List Str)) (pre : List Nat) (sure : List Nat) (taken : List (Nat × Nat)) : Prop where
  took : ∀ k ∈ pre, taken.getD k (0, 0) ∈ blocksOf row ∧ mem k (taken.getD k (0, 0)) ∧ ∀ j, mem j (taken.getD k (0, 0)) → j ∈ pre ∧ sure.getD j 0 ≤ rank row lk j (taken.getD k (0, 0))
  firm : ∀ p ∈ blocksOf row, (∀ j, mem j p → j ∈ pre) → ∃ j, mem j p ∧ rank row lk j p ≤ sure.getD j 0

theorem mid_step {row : Str} {lk : List (List Str)} {r k : Nat} {pre post sure : List Nat} {taken : List (Nat × Nat)} {T : Nat × Nat} (hr : r < 5) (e : ord r = pre ++ k :: post) (m : Mid row lk pre sure taken) (s5 : sure.length = 5) (t5 : taken.length = 5)
    (h1 : T ∈ mine row r k) (h2 : fitB row lk sure k T = true) (h3 : ∀ q ∈ mine row r k, fitB row lk sure k q = true → rank row lk k q ≤ rank row lk k T) :
    Mid row lk (pre ++ [k]) (sure.set k (rank row lk k T)) (taken.set k T) := by
  obtain ⟨hk, hpre⟩ := ord_at hr e
  have knot : k ∉ pre := fun h => by have := (hpre k hk).mp h; unfold ahead at this; (repeat' split at this) <;> omega
  have gs : ∀ j, (sure.set k (rank row lk k T)).getD j 0 = if j = k then rank row lk k T else sure.getD j 0 := fun j => getD_set (by omega)
  have gt : ∀ j, (taken.set k T).getD j (0, 0) = if j = k then T else taken.getD j (0, 0) := fun j => getD_set (by omega)
  obtain ⟨hTb, hTm, _⟩ := (mem_mine hk).mp h1
  have lt5 : ∀ {p : Nat × Nat}, p ∈ blocksOf row → ∀ j, mem j p → j < 5 := fun hp j hj => by have := mem_blocks.mp hp; unfold mem at hj; omega
  refine ⟨fun k' hk' => ?_, fun p hp hall => ?_⟩
  · rw [gt]
    by_cases ek : k' = k
    · subst ek
      rw [if_pos rfl]
      refine ⟨hTb, hTm, fun j hj => ?_⟩
      rw [gs]
      by_cases ej : j = k'
      · subst ej
        rw [if_pos rfl]
        exact ⟨by simp, Nat.le_refl _⟩
      · rw [if_neg ej]
        exact ⟨List.mem_append_left _ ((hpre j (lt5 hTb j hj)).mpr ((mine_iff hk hr hTb hTm).mp h1 j hj ej)), fitB_iff.mp h2 j hj ej⟩
    · rw [if_neg ek]
      have hk'' : k' ∈ pre := by rcases List.mem_append.mp hk' with h | h; exact h; simp at h; exact absurd h ek
      obtain ⟨a, b, c⟩ := m.took k' hk''
      refine ⟨a, b, fun j hj => ?_⟩
      obtain ⟨d, f⟩ := c j hj
      have ej : j ≠ k := fun e => knot (e ▸ d)
      rw [gs, if_neg ej]
      exact ⟨List.mem_append_left _ d, f⟩
  · by_cases hkm : mem k p
    · by_cases hf : fitB row lk sure k p = true
      · refine ⟨k, hkm, ?_⟩
        rw [gs, if_pos rfl]
        refine h3 p ?_ hf
        refine (mine_iff hk hr hp hkm).mpr fun j hj hne => (hpre j (lt5 hp j hj)).mp ?_
        rcases List.mem_append.mp (hall j hj) with h | h
        · exact h
        · simp at h; exact absurd h hne
      · have : ∃ j, mem j p ∧ j ≠ k ∧ rank row lk j p < sure.getD j 0 := Classical.byContradiction fun hn => hf (fitB_iff.mpr fun j hj hne => Nat.le_of_not_lt fun hl => hn ⟨j, hj, hne, hl⟩)
        obtain ⟨j, hj, hne, hl⟩ := this
        exact ⟨j, hj, by rw [gs, if_neg hne]; omega⟩
    · obtain ⟨j, hj, hl⟩ := m.firm p hp fun j hj => by
        rcases List.mem_append.mp (hall j hj) with h | h
        · exact h
        · simp at h; subst h; exact absurd hj hkm
      have ej : j ≠ k := fun e => hkm (e ▸ hj)
      exact ⟨j, hj, by rw [gs, if_neg ej]; exact hl⟩

theorem down_items {r : Nat} (hr : r < 5) : (PV.rng 4 (r : Int) (-1)).items = some ((List.range' (r + 1) (4 - r)).reverse.map num) := by
  have : r = 0 ∨ r = 1 ∨ r = 2 ∨ r = 3 ∨ r = 4 := by omega
  rcases this with rfl | rfl | rfl | rfl | rfl <;> rfl

theorem cut_ok {n : Nat} {row : Str} {lk : List (List Str)} (X : Lks row lk) {r : Nat} (hr : r < 5) (Q : Cb) (h : ∀ M, CutGood row lk M → Q (.list (M.map pr))) : CallW pw tabF (n + 2) 5 [.str row, likesV lk, num r] Q := by
  refine callW (f := Str.ofString "_law_cut") (by decide +kernel) c_isCut rfl ?_
  have ordl := ord_len r hr
  have oe : Ev tabF (CallW pw tabF (n + 1)) (.bin .add (.bin .add (.listOf (.range1 (.var 14))) (.listOf (.range3 (.int 4) (.var 14) (.int (-1))))) (.list1 (.var 14))) (bindP [3, 13, 14] [.str row, likesV lk, num r]) (.list ((ord r).map num)) := by
    have e : (ord r).map num = ((List.range r).map num ++ (List.range' (r + 1) (4 - r)).reverse.map num) ++ [num r] := by
      unfold ord
      rw [List.map_append, List.map_append, List.append_assoc]; rfl
    rw [e]
    exact .catL (.catL (.listOf (i := 0) (j := (r : Int)) (k := 1) (.range1 (.var rfl) (by unfold sml; omega)) (rng0_items r) (by simp; omega)) (.listOf (i := 4) (j := (r : Int)) (k := -1) (.range3 .int (.var rfl) .int (by unfold sml; omega) (by unfold sml; omega)) (down_items hr) (by simp; omega)) (by simp; omega)) (.list1 (.var rfl) trivial) (by simp; omega)
  refine WS.seq (WS.asg oe trivial (WS.seq (WS.seq (WS.seq (WS.loop (body := cutBody) (L := ord r) num (fun pre τ => ∃ sure taken, CS row lk r sure taken τ ∧ Mid row lk pre sure taken)
    (.var rfl) trivial rfl (by omega) ⟨[0, 0, 0, 0, 0], [(0, 0), (0, 0), (0, 0), (0, 0), (0, 0)], ⟨rfl, rfl, rfl, rfl, rfl, rfl, rfl, rfl⟩, fun k hk => (by cases hk), fun p hp hall => absurd (hall p.1 ⟨Nat.le_refl _, (mem_blocks.mp hp).1⟩) (List.not_mem_nil)⟩ (fun pre k post τ e i => ?_) fun τ i => ?_)))))
  · obtain ⟨sure, taken, S, m⟩ := i
    have hk := (ord_at hr e).1
    exact ⟨upd τ 2 (num k), rfl, fun K hK => cut_turn X hk hr S fun T τ' h1 h2 h3 S' => hK τ' ⟨_, _, S', mid_step hr e m S.s5 S.t5 h1 h2 h3⟩⟩
  · obtain ⟨sure, taken, S, m⟩ := i
    refine WS.seq (WS.seq (WS.loop (x := .list ((ord r).reverse.map num)) (L := (ord r).reverse) num (fun pre τ => ∃ C : List (Nat × Nat), τ 23 = some (.cur (C.map pr)) ∧ τ 17 = some (.cur (taken.map pr)) ∧ C.length ≤ pre.length ∧ (∀ p ∈ C, ∃ k, k ∈ ord r ∧ p = taken.getD k (0, 0)) ∧ ∀ k ∈ pre, ∃ p ∈ C, mem k p)
      ?_ trivial rfl (by simp; omega) ⟨[], rfl, S.e17, Nat.le_refl _, fun p hp => (by cases hp), fun k hk => (by cases hk)⟩ (fun pre k post τ e i => ?_) fun τ i => ?_))
    · rw [List.map_reverse]
      exact .rev (.var S.e15) (by simp; omega)
    · obtain ⟨C, e23, e17, hl, hC, hall⟩ := i
      have hk : k ∈ ord r := by rw [← List.mem_reverse, e]; simp
      have hk5 := ord_five r hr k hk
      have pl : pre.length < 5 := by have := congrArg List.length e; simp [ordl] at this; omega
      refine ⟨upd τ 2 (num k), rfl, fun K hK => WS.seq (WS.ite (q := (C.filter fun p => decide (p.1 ≤ k ∧ k < p.2)).isEmpty) ?_ (fun hq => ?_) fun hq => ?_)⟩
      · refine .eqL (i := (C.filter fun p => decide (p.1 ≤ k ∧ k < p.2)).map fun p => num p.1) (j := []) ?_ .nil ?_ rfl (list_nil _ _)
        · refine Ev.comp pr (fun p => decide (p.1 ≤ k ∧ k < p.2)) (fun p => num p.1) (.var e23) rfl (by omega) fun p hp => ⟨_, rfl, .chain (i := (p.1 : Int)) (j := (k : Int)) (l := (p.2 : Int)) (.var rfl) (.var rfl) (.var rfl) (by rw [decide_eq_true_eq]; omega), fun _ => ⟨.var rfl, trivial⟩⟩
        · have := nums_ok 7 ((C.filter fun p => decide (p.1 ≤ k ∧ k < p.2)).map fun p => p.1)
          rw [List.map_map] at this
          exact this
      · refine WS.seq (WS.app e23 (.idxC (i := (k : Int)) (.var e17) (.var rfl) (by omega) (by omega) (pr_at (by rw [S.t5]; omega))) trivial (by rw [List.length_map]; omega) (hK _ ⟨C ++ [taken.getD k (0, 0)], ?_, e17, by simp; omega, fun p hp => ?_, fun k' hk' => ?_⟩))
        · show some (PV.cur (C.map pr ++ [pr (taken.getD k (0, 0))])) = _
          rw [List.map_append]; rfl
        · rcases List.mem_append.mp hp with hp | hp
          · exact hC p hp
          · simp at hp; exact ⟨k, hk, hp⟩
        · rcases List.mem_append.mp hk' with hk' | hk'
          · obtain ⟨p, hp, hm⟩ := hall k' hk'; exact ⟨p, List.mem_append_left _ hp, hm⟩
          · simp at hk'; subst hk'
            exact ⟨taken.getD k' (0, 0), by simp, (m.took k' hk).2.1⟩
      · refine hK _ ⟨C, e23, e17, by simp; omega, hC, fun k' hk' => ?_⟩
        rcases List.mem_append.mp hk' with hk' | hk'
        · exact hall k' hk'
        · simp at hk'; subst hk'
          rw [List.isEmpty_eq_false_iff_exists_mem] at hq
          obtain ⟨p, hp⟩ := hq
          obtain ⟨hp, hm⟩ := List.mem_filter.mp hp
          exact ⟨p, hp, by rw [decide_eq_true_eq] at hm; exact hm⟩
    · obtain ⟨C, e23, e17, hl, hC, hall⟩ := i
      have hl5 : C.length ≤ 5 := by simpa [ordl] using hl
      refine WS.seq (W_ret (W_sorted (Ev.var e23 _ ?_)))
      refine ⟨by rw [List.length_map]; omega, .inl ?_, fun es hes => ?_⟩
      · rw [List.all_map, List.all_eq_true]; exact fun _ _ => rfl
      · obtain ⟨M, hM, rfl⟩ := perm_map pr hes.symm C rfl
        refine h M ⟨by rw [hM.length_eq]; exact hl5, ⟨sure, fun p hp => ?_, fun p hp => ?_⟩, fun k hk => ?_⟩
        · obtain ⟨k, hk, rfl⟩ := hC p (hM.mem_iff.mp hp)
          obtain ⟨a, b, c⟩ := m.took k hk
          exact ⟨a, fun j hj => (c j hj).2⟩
        · exact m.firm p hp fun j hj => ord_all r hr j (by have := mem_blocks.mp hp; unfold mem at hj; omega)
        · obtain ⟨p, hp, hm⟩ := hall k (List.mem_reverse.mpr (ord_all r hr k hk))
          exact ⟨p, hM.mem_iff.mpr hp, hm⟩
end Cut20
namespace Cut20

/-! No block upsets the cut. -/
theorem intsOf_map : ∀ l : List Int, intsOf (l.map .int) = some l
  | [] => rfl
  | x :: l => by
    show (intsOf (l.map .int)).map (x :: ·) = _
    rw [intsOf_map l]; rfl
theorem Ev.minGt {tab : Str → Option Int} {call : Nat → List PV → Cb → Prop} {σ : Sg} {a : IE} {ns : List Int} (ha : Ev tab call a σ (.list (ns.map .int))) {x : Int} (hx : x ∈ ns) (h0 : x ≤ 0) : Ev tab call (.cmp .gt (.min1 a) (.int 0)) σ (.bool false) :=
  fun Q q => ha _ ⟨ns, intsOf_map ns, List.ne_nil_of_mem hx, fun m hm hmin => both_of (t := false) ⟨fun h => (nomatch h), fun h => by have := hmin x hx; omega⟩ q⟩

noncomputable def rankE : IE := .index (.idx (.var 13) (.var 2)) (.slice (.var 3) (.var 10) (.var 11))
noncomputable def upBody : IS := (.seq 
  (.asg 26 (.comp (.bin .sub (.index (.idx (.var 13) (.var 2)) (.slice (.var 3) (.var 10) (.var 11))) (.idx (.var 25) (.var 2))) (.one 2) (.range2 (.var 10) (.var 11)) false IE.none [10, 11, 13, 3, 25])) (.seq 
  (.asg 22 (.dcomp (.bin .add (.var 10) (.var 28)) (.ite (.cmp .gt (.idx (.var 26) (.var 28)) (.int 0)) (.int 100) (.ite (.cmp .eq (.idx (.var 26) (.var 28)) (.int 0)) (.int 10) IE.none)) (.one 28) (.range1 (.bin .sub (.var 11) (.var 10))) [10, 26])) (.seq 
  (.asg 27 (.len (.comp (.var 5) (.one 5) (.var 26) true (.cmp .lt (.var 5) (.int 0)) []))) (.seq 
  (.ite (.or (.cmp .gt (.min1 (.var 26)) (.int 0)) (.cmp .ne (.call1 7 (.var 22)) (.ite (.cmp .eq (.var 27) (.bin .sub (.var 11) (.var 10))) (.int 0) (.ite (.cmp .gt (.var 27) (.int 0)) (.int 4) (.int 3))))) (.seq 
  (.ret (.bool true)) .nop) .nop) .nop))))

noncomputable def gv (g : Int) : PV := if g > 0 then .int 100 else if g = 0 then .int 10 else .none
theorem gv_ok (g : Int) : valOk (gv g) = true := by unfold gv; split <;> (try split) <;> rfl
theorem gv_fz (g : Int) : (gv g).fz := by unfold gv; split <;> (try split) <;> trivial
theorem gv_none {g : Int} : PV.none = gv g ↔ g < 0 := by
  unfold gv
  split
  · simp; omega
  · split
    · simp; omega
    · simp; omega
theorem gv_some {g m : Int} : some? (gv g) = some m ↔ 0 ≤ g ∧ m = if g > 0 then 100 else 10 := by
  unfold gv
  split
  · simp [some?]; omega
  · split
    · simp [some?]; omega
    · simp [some?]; omega
noncomputable def expd (gs : List Int) : Int := if (gs.filter fun g => decide (g < 0)).length = gs.length then 0 else if 0 < (gs.filter fun g => decide (g < 0)).length then 4 else 3
theorem two_digits : (Str.ofString (toString (100 : Int))).length = 3 ∧ (Str.ofString (toString (10 : Int))).length = 2 := by decide +kernel
theorem upset_width {n : Nat} (gs : List Int) (es : List (Int × PV)) (he : es.map (·.2) = gs.map gv) (hl : gs.length < 1000) (Q : Cb) (h : Q (.int (expd gs))) : CallW pw tabF (n + 1) 7 [.dict es] Q := by
  have hlen : es.length = gs.length := by have := congrArg List.length he; simpa using this
  have hall : (es.all fun p => valOk p.2) = true := by
    have : (es.all fun p => valOk p.2) = (es.map (·.2)).all valOk := by rw [List.all_map]; rfl
    rw [this, he, List.all_map, List.all_eq_true]
    exact fun g _ => gv_ok g
  have mv : ∀ m, m ∈ (es.map (·.2)).filterMap some? ↔ ∃ g ∈ gs, 0 ≤ g ∧ m = if g > 0 then 100 else 10 := fun m => by
    rw [he, List.filterMap_map, List.mem_filterMap]
    constructor
    · rintro ⟨g, hg, e⟩; exact ⟨g, hg, gv_some.mp e⟩
    · rintro ⟨g, hg, e⟩; exact ⟨g, hg, gv_some.mpr e⟩
  have le : (gs.filter fun g => decide (g < 0)).length = gs.length ↔ ∀ g ∈ gs, g < 0 := by
    rw [List.length_filter_eq_length_iff]
    exact ⟨fun h g hg => by simpa using h g hg, fun h g hg => by simpa using h g hg⟩
  have lp : 0 < (gs.filter fun g => decide (g < 0)).length ↔ ∃ g ∈ gs, g < 0 := by
    rw [List.length_pos_iff_exists_mem]
    constructor
    · rintro ⟨g, hg⟩; exact ⟨g, (List.mem_filter.mp hg).1, by simpa using (List.mem_filter.mp hg).2⟩
    · rintro ⟨g, hg, h⟩; exact ⟨g, List.mem_filter.mpr ⟨hg, by simpa using h⟩⟩
  unfold expd at h
  by_cases ha : ∀ g ∈ gs, g < 0
  · rw [if_pos (le.mpr ha)] at h
    refine width_none es Q (by omega) hall ?_ h
    rw [List.eq_nil_iff_forall_not_mem]
    intro m hm
    obtain ⟨g, hg, h0, _⟩ := (mv m).mp hm
    have := ha g hg
    omega
  · rw [if_neg (fun h' => ha (le.mp h'))] at h
    have hex : ∃ g ∈ gs, 0 ≤ g := Classical.byContradiction fun hn => ha fun g hg => Classical.byContradiction fun h' => hn ⟨g, hg, by omega⟩
    obtain ⟨g₀, hg₀, h0⟩ := hex
    refine width_some es Q (by omega) hall (decide (0 < (gs.filter fun g => decide (g < 0)).length)) ?_ (List.ne_nil_of_mem ((mv _).mpr ⟨g₀, hg₀, h0, rfl⟩)) fun m hm _ => ?_
    · rw [decide_eq_true_eq, lp, he, List.mem_map]
      constructor
      · rintro ⟨g, hg, h⟩; exact ⟨g, hg, (gv_none.mpr h).symm⟩
      · rintro ⟨g, hg, h⟩; exact ⟨g, hg, gv_none.mp h.symm⟩
    · obtain ⟨g, hg, hg0, e⟩ := (mv m).mp hm
      have q : ∀ l, l ≤ 3 → widOf l (decide (0 < (gs.filter fun g => decide (g < 0)).length)) = if 0 < (gs.filter fun g => decide (g < 0)).length then 4 else 3 := fun l hl => by
        unfold widOf
        rw [if_neg (by omega)]
        simp only [decide_eq_true_eq]
      split at e
      · subst e
        rw [two_digits.1, q 3 (by decide)]
        exact ⟨by decide, by decide +kernel, by decide, h⟩
      · subst e
        rw [two_digits.2, q 2 (by decide)]
        exact ⟨by decide, by decide +kernel, by decide, h⟩

section
variable {n : Nat} {row : Str} {lk : List (List Str)} {τ : Sg}
noncomputable def gain (row : Str) (lk : List (List Str)) (worth : List Nat) (q : Nat × Nat) (j : Nat) : Int := (rank row lk j q : Int) - (worth.getD j 0 : Int)
theorem up_turn (X : Lks row lk) {worth : List Nat} (w5 : worth.length = 5) {q : Nat × Nat} (hq : q ∈ blocksOf row) (hw : ∃ j, mem j q ∧ rank row lk j q ≤ worth.getD j 0) (e3 : τ 3 = some (.str row)) (e13 : τ 13 = some (likesV lk)) (e25 : τ 25 = some (.cur (worth.map num)))
    {K B : Sg → Prop} {R : Cb} (hK : ∀ τ', τ' 3 = some (.str row) → τ' 13 = some (likesV lk) → τ' 25 = some (.cur (worth.map num)) → K τ') :
    WS tabF (CallW pw tabF (n + 1)) upBody (upd (upd τ 10 (num q.1)) 11 (num q.2)) K B R := by
  have hb := mem_blocks.mp hq
  obtain ⟨j₀, hj₀, hle⟩ := hw
  let L := List.range' q.1 (q.2 - q.1)
  have hL : L.length = q.2 - q.1 := by simp [L]
  let gs := L.map (gain row lk worth q)
  have hgl : gs.length = q.2 - q.1 := by simp [gs, hL]
  have gi : ∀ i, i < q.2 - q.1 → gs[i]? = some (gain row lk worth q (q.1 + i)) := fun i hi => by
    show (L.map _)[i]? = _
    rw [List.getElem?_map, List.getElem?_range' hi]; simp
  refine WS.seq (WS.asg (d := .list (gs.map .int)) ?_ trivial ?_)
  · rw [List.map_map]
    refine Ev.compM (x := .rng (q.1 : Int) (q.2 : Int) 1) num _ (.range2 (.var rfl) (.var rfl) (by unfold sml; omega) (by unfold sml; omega)) (rngN_items _ _) (by omega) fun j hj => ?_
    have hj := List.mem_range'_1.mp hj
    exact ⟨_, rfl, .sub (rank_ev X hq ⟨hj.1, by omega⟩ e13 rfl e3 rfl rfl) (.idxC (i := (j : Int)) (.var e25) (.var rfl) (by omega) (by omega) (num_at (by omega))), trivial⟩
  · refine WS.seq (WS.asg (d := .dict ((List.range (q.2 - q.1)).map fun i : Nat => ((q.1 : Int) + (i : Int), gv (gain row lk worth q (q.1 + i))))) ?_ trivial ?_)
    · refine Ev.dcomp (x := .rng 0 ((q.2 - q.1 : Nat) : Int) 1) (L := List.range (q.2 - q.1)) num (fun i : Nat => (q.1 : Int) + (i : Int)) (fun i : Nat => gv (gain row lk worth q (q.1 + i))) (.range1 ?_ (by unfold sml; omega)) (rng0_items _) (by simp; omega) (fun i hi => ?_) ?_
      · have : ((q.2 - q.1 : Nat) : Int) = (q.2 : Int) - (q.1 : Int) := by omega
        rw [this]
        exact .sub (.var rfl) (.var rfl)
      · rw [List.mem_range] at hi
        have ix : ∀ (τ' : Sg), τ' 26 = some (.list (gs.map .int)) → τ' 28 = some (num i) → Ev tabF (CallW pw tabF (n + 1)) (.idx (.var 26) (.var 28)) τ' (.int (gain row lk worth q (q.1 + i))) := fun τ' h1 h2 =>
          .idxL (i := (i : Int)) (.var h1) (.var h2) (by omega) (by omega) (by rw [Int.toNat_natCast, List.getElem?_map, gi i hi]; rfl)
        refine ⟨_, rfl, .add (.var rfl) (.var rfl), ?_, gv_fz _⟩
        unfold gv
        refine .ite (s := decide (gain row lk worth q (q.1 + i) > 0)) (.gt (ix _ rfl rfl) .int (by rw [decide_eq_true_eq])) (fun h => ?_) fun h => ?_
        · rw [decide_eq_true_eq] at h; rw [if_pos h]; exact .int
        · rw [decide_eq_false_iff_not] at h; rw [if_neg h]
          refine .ite (s := decide (gain row lk worth q (q.1 + i) = 0)) (.eq (ix _ rfl rfl) .int (by rw [decide_eq_true_eq])) (fun h => ?_) fun h => ?_
          · rw [decide_eq_true_eq] at h; rw [if_pos h]; exact .int
          · rw [decide_eq_false_iff_not] at h; rw [if_neg h]; exact .none
      · exact List.Pairwise.map _ (fun a b h => by omega) List.nodup_range
    · refine WS.seq (WS.asg (d := .int ((gs.filter fun g => decide (g < 0)).length : Nat)) ?_ trivial ?_)
      · have e : (gs.filter fun g => decide (g < 0)).length = ((gs.filter fun g => decide (g < 0)).map PV.int).length := by rw [List.length_map]
        rw [e]
        exact .lenL (Ev.comp PV.int (fun g => decide (g < 0)) PV.int (.var rfl) rfl (by omega) fun g _ => ⟨_, rfl, .lt (.var rfl) .int (by rw [decide_eq_true_eq]), fun _ => ⟨.var rfl, trivial⟩⟩)
          (by rw [List.length_map]; have := List.length_filter_le (fun g => decide (g < 0)) gs; omega)
      · refine WS.seq (WS.ite (q := false || false) (.or (Ev.minGt (ns := gs) (x := gain row lk worth q j₀) (.var rfl) ?_ ?_) fun _ => .ne (i := expd gs) (j := expd gs) (.call1 (.var rfl) trivial fun Q h => upset_width gs _ ?_ (by omega) Q h) ?_ (by simp)) (fun h => nomatch h) fun _ => hK _ e3 e13 e25)
        · refine List.mem_map_of_mem ?_
          unfold mem at hj₀
          rw [List.mem_range'_1]; omega
        · unfold gain; omega
        · rw [List.map_map]
          show _ = (L.map _).map gv
          rw [List.map_map]
          show _ = (List.range' q.1 (q.2 - q.1)).map _
          rw [List.range'_eq_map_range, List.map_map]
          rfl
        · unfold expd
          rw [hgl]
          refine .ite (s := decide ((gs.filter fun g => decide (g < 0)).length = q.2 - q.1)) (.eq (i := ((gs.filter fun g => decide (g < 0)).length : Nat)) (j := (q.2 : Int) - (q.1 : Int)) (.var rfl) (.sub (.var rfl) (.var rfl)) (by rw [decide_eq_true_eq]; omega)) (fun h => ?_) fun h => ?_
          · rw [decide_eq_true_eq] at h; rw [if_pos h]; exact .int
          · rw [decide_eq_false_iff_not] at h; rw [if_neg h]
            refine .ite (s := decide (0 < (gs.filter fun g => decide (g < 0)).length)) (.gt (i := ((gs.filter fun g => decide (g < 0)).length : Nat)) (j := 0) (.var rfl) .int (by rw [decide_eq_true_eq]; omega)) (fun h => ?_) fun h => ?_
            · rw [decide_eq_true_eq] at h; rw [if_pos h]; exact .int
            · rw [decide_eq_false_iff_not] at h; rw [if_neg h]; exact .int
end
end Cut20
namespace Cut20

theorem upset_ok {n : Nat} {row : Str} {lk : List (List Str)} (X : Lks row lk) {M : List (Nat × Nat)} (G : CutGood row lk M) (Q : Cb) (h : Q (.bool false)) :
    CallW pw tabF (n + 2) 6 [.str row, likesV lk, .list ((blocksOf row).map pr), .list (M.map pr)] Q := by
  refine callW (f := Str.ofString "_law_upset") (by decide +kernel) c_isUpset rfl ?_
  obtain ⟨sure, hs1, hs2⟩ := G.sure
  refine WS.seq (WS.seq (WS.loop (L := M) pr (fun pre τ => τ 3 = some (.str row) ∧ τ 13 = some (likesV lk) ∧ τ 7 = some (.list ((blocksOf row).map pr)) ∧ ∃ worth : List Nat, worth.length = 5 ∧ τ 25 = some (.cur (worth.map num)) ∧
      ∀ k, (∃ p ∈ pre, mem k p) → ∃ p ∈ pre, mem k p ∧ worth.getD k 0 = rank row lk k p)
    (.var (d := .list (M.map pr)) rfl) trivial rfl (by have := G.len; omega) ⟨rfl, rfl, rfl, [0, 0, 0, 0, 0], rfl, rfl, fun k hk => by obtain ⟨p, hp, _⟩ := hk; cases hp⟩ (fun pre q post τ e i => ?_) fun τ i => ?_))
  · obtain ⟨e3, e13, e7, worth, w5, e25, hw⟩ := i
    have hqM : q ∈ M := by rw [e]; simp
    obtain ⟨hq, _⟩ := hs1 q hqM
    have hb := mem_blocks.mp hq
    refine ⟨upd (upd τ 10 (num q.1)) 11 (num q.2), rfl, fun K hK => ?_⟩
    refine WS.seq (WS.loop (x := .rng (q.1 : Int) (q.2 : Int) 1) (L := List.range' q.1 (q.2 - q.1)) num (fun pre' τ => τ 3 = some (.str row) ∧ τ 13 = some (likesV lk) ∧ τ 7 = some (.list ((blocksOf row).map pr)) ∧ τ 10 = some (num q.1) ∧ τ 11 = some (num q.2) ∧ ∃ worth : List Nat, worth.length = 5 ∧ τ 25 = some (.cur (worth.map num)) ∧
        ∀ k, ((∃ p ∈ pre, mem k p) ∨ k ∈ pre') → ∃ p ∈ pre ++ [q], mem k p ∧ worth.getD k 0 = rank row lk k p)
      (.range2 (.var rfl) (.var rfl) (by unfold sml; omega) (by unfold sml; omega)) trivial (rngN_items _ _) (by simp; omega) ⟨e3, e13, e7, rfl, rfl, worth, w5, e25, fun k hk => ?_⟩ (fun pre' j post' τ e' i => ?_) fun τ i => ?_)
    · rcases hk with hk | hk
      · obtain ⟨p, hp, h⟩ := hw k hk; exact ⟨p, List.mem_append_left _ hp, h⟩
      · cases hk
    · obtain ⟨e3, e13, e7, e10, e11, worth, w5, e25, hw⟩ := i
      have hj : j ∈ List.range' q.1 (q.2 - q.1) := by rw [e']; simp
      have hj := List.mem_range'_1.mp hj
      have hjm : mem j q := ⟨hj.1, by omega⟩
      refine ⟨upd τ 2 (num j), rfl, fun K hK => WS.seq (WS.setI (ds := worth.map num) (j := (j : Int)) (rank_ev X hq hjm e13 rfl e3 e10 e11) e25 (.var rfl) trivial (by omega) (by rw [List.length_map]; omega) (by rw [List.length_map]; omega)
        (hK _ ⟨e3, e13, e7, e10, e11, worth.set j (rank row lk j q), by simpa using w5, ?_, fun k hk => ?_⟩))⟩
      · show some (PV.cur ((worth.map num).set j (num (rank row lk j q)))) = _
        rw [List.map_set]
      · rw [getD_set (by omega)]
        by_cases ek : k = j
        · subst ek
          exact ⟨q, by simp, hjm, by rw [if_pos rfl]⟩
        · rw [if_neg ek]
          refine hw k (hk.imp_right fun hk => ?_)
          rcases List.mem_append.mp hk with hk | hk
          · exact hk
          · simp at hk; exact absurd hk ek
    · obtain ⟨e3, e13, e7, e10, e11, worth, w5, e25, hw⟩ := i
      refine hK _ ⟨e3, e13, e7, worth, w5, e25, fun k hk => hw k ?_⟩
      obtain ⟨p, hp, hm⟩ := hk
      rcases List.mem_append.mp hp with hp | hp
      · exact .inl ⟨p, hp, hm⟩
      · simp at hp; subst hp
        unfold mem at hm
        exact .inr (by rw [List.mem_range'_1]; omega)
  · obtain ⟨e3, e13, e7, worth, w5, e25, hw⟩ := i
    have big : ∀ k, k < 5 → sure.getD k 0 ≤ worth.getD k 0 := fun k hk => by
      obtain ⟨p, hp, hm, e⟩ := hw k (G.all k hk)
      rw [e]; exact (hs1 p hp).2 k hm
    refine WS.seq (WS.loop (body := upBody) (L := blocksOf row) pr (fun pre τ => τ 3 = some (.str row) ∧ τ 13 = some (likesV lk) ∧ τ 25 = some (.cur (worth.map num)))
      (.var e7) trivial rfl (by have := blocks_len row; omega) ⟨e3, e13, e25⟩ (fun pre q post τ e i => ?_) fun τ i => ?_)
    · have hq : q ∈ blocksOf row := by rw [e]; simp
      have hb := mem_blocks.mp hq
      refine ⟨upd (upd τ 10 (num q.1)) 11 (num q.2), rfl, fun K hK => up_turn X w5 hq ?_ i.1 i.2.1 i.2.2 fun τ' a b c => hK τ' ⟨a, b, c⟩⟩
      obtain ⟨j, hj, hl⟩ := hs2 q hq
      exact ⟨j, hj, Nat.le_trans hl (big j (by unfold mem at hj; omega))⟩
    · exact WS.seq (WS.ret .bool h)
end Cut20
namespace Cut20

/-! The law. -/
section
variable {tab : Str → Option Int} {call : Nat → List PV → Cb → Prop} {σ : Sg} {a b c d : IE} {x y z u v : PV} {f i : Nat} {N B : Sg → Prop} {R Q : Cb}
theorem W_asg (h : W tab call a σ fun d => d.fz ∧ N (upd σ i d)) : WS tab call (.asg i a) σ N B R := h
theorem W_call1 (ha : Ev tab call a σ x) (hx : x.fz) (h : call f [x] Q) : W tab call (.call1 f a) σ Q := ha _ ⟨hx, h⟩
theorem W_call3 (ha : Ev tab call a σ x) (hb : Ev tab call b σ y) (hc : Ev tab call c σ z) (hx : x.fz) (hy : y.fz) (hz : z.fz) (h : call f [x, y, z] Q) : W tab call (.call3 f a b c) σ Q := ha _ (hb _ (hc _ ⟨hx, hy, hz, h⟩))
theorem W_call4 (ha : Ev tab call a σ x) (hb : Ev tab call b σ y) (hc : Ev tab call c σ z) (hd : Ev tab call d σ u) (hx : x.fz) (hy : y.fz) (hz : z.fz) (hu : u.fz) (h : call f [x, y, z, u] Q) : W tab call (.call4 f a b c d) σ Q :=
  ha _ (hb _ (hc _ (hd _ ⟨hx, hy, hz, hu, h⟩)))
end
theorem all2_map {α β : Type} (g : β → PV) (P : α → β → Prop) : ∀ {L : List α} {ds : List PV}, All2 (fun q d => ∃ l, P q l ∧ d = g l) L ds → ∃ ls : List β, ds = ls.map g ∧ All2 P L ls
  | _, _, .nil => ⟨[], rfl, .nil⟩
  | _, _, .cons ⟨l, h, e⟩ r => by
    obtain ⟨ls, rfl, hr⟩ := all2_map g P r
    exact ⟨l :: ls, by rw [e]; rfl, .cons h hr⟩
theorem all2_len {α β : Type} {P : α → β → Prop} : ∀ {L : List α} {ls : List β}, All2 P L ls → ls.length = L.length
  | _, _, .nil => rfl
  | _, _, .cons _ r => by rw [List.length_cons, List.length_cons, all2_len r]
theorem all2_get {α β : Type} {P : α → β → Prop} : ∀ {L : List α} {ls : List β}, All2 P L ls → ∀ {i : Nat} {x : α} (d : β), L[i]? = some x → P x (ls.getD i d)
  | _, _, .nil, i, x, d, h => by simp at h
  | _, _, .cons p r, i, x, d, h => by
    cases i with
    | zero => simp at h; subst h; exact p
    | succ i => exact all2_get r d (by simpa using h)
theorem all2_range {β : Type} {n : Nat} {P : Nat → β → Prop} {ls : List β} (h : All2 P (List.range n) ls) (d : β) {k : Nat} (hk : k < n) : P k (ls.getD k d) := all2_get h d (List.getElem?_range hk)

theorem lists_ok (n : Nat) {l : List PV} (h : ∀ x ∈ l, eqOk n x = true) : eqOk (n + 1) (.list l) = true := by
  show l.all (eqOk n) = true
  exact List.all_eq_true.mpr h
theorem strs_okN (n : Nat) {l : List Str} (h : ∀ x ∈ l, PyData.strOk x = true) : eqOk (n + 1) (.list (l.map .str)) = true := by
  show (l.map PV.str).all (eqOk n) = true
  rw [List.all_map, List.all_eq_true]
  intro x hx
  show eqOk n (.str x) = true
  have := h x hx
  cases n <;> (unfold eqOk; exact this)
theorem lk_mem {row : Str} {lk : List (List Str)} (X : Lks row lk) {l : List Str} (hl : l ∈ lk) : ∃ k, k < 5 ∧ l = lk.getD k [] := by
  obtain ⟨k, hk, rfl⟩ := List.getElem_of_mem hl
  exact ⟨k, by have := X.five; omega, by rw [List.getD_eq_getElem?_getD, List.getElem?_eq_getElem hk]; rfl⟩
theorem lk_sub {row : Str} {lk : List (List Str)} (X : Lks row lk) {l : List Str} (hl : l ∈ lk) {x : Str} (hx : x ∈ l) : ∃ p ∈ blocksOf row, x = sub row p := by
  obtain ⟨k, hk, rfl⟩ := lk_mem X hl
  obtain ⟨p, hp, _, _, e⟩ := ((X.at_ k hk).mem x).mp hx
  exact ⟨p, hp, e⟩
theorem likes_eqOk {row : Str} {lk : List (List Str)} (X : Lks row lk) : eqOk 8 (likesV lk) = true := by
  refine lists_ok 7 fun x hx => ?_
  obtain ⟨l, hl, rfl⟩ := List.mem_map.mp hx
  refine strs_okN 6 fun y hy => ?_
  obtain ⟨p, _, rfl⟩ := lk_sub X hl hy
  exact sub_ok X.good p
theorem no_mark : ∀ c ∈ signs, c ≠ 34 := by decide +kernel

noncomputable def partsE : IE := .comp2 (.tup2 (.var 10) (.var 11)) (.one 10) (.range1 (.int 5)) (.one 11) (.range2 (.bin .add (.var 10) (.int 1)) (.int 6)) false IE.none []
theorem parts_ev {call : Nat → List PV → Cb → Prop} {σ : Sg} : Ev tabF call partsE σ (.list (allPairs.map pr)) := by
  have e : allPairs.map pr = (List.range 5).flatMap fun a => (List.range' (a + 1) (6 - (a + 1))).map fun b => pr (a, b) := by
    unfold allPairs
    rw [List.map_flatMap]
    congr 1
    funext a
    rw [List.map_map, show 6 - (a + 1) = 5 - a by omega]
    rfl
  rw [e]
  refine Ev.comp2M (x := .rng 0 ((5 : Nat) : Int) 1) (fun a => List.range' (a + 1) (6 - (a + 1))) num num (fun a b => pr (a, b)) (.range1 .int (by unfold sml; omega)) (rng0_items 5) (by simp) fun a ha => ⟨_, .rng ((a + 1 : Nat) : Int) ((6 : Nat) : Int) 1, rfl, .range2 (.add (i := (a : Int)) (j := 1) (.var rfl) .int) .int ?_ (by unfold sml; omega), rngN_items _ _, by simp; omega, fun b hb => ⟨_, rfl, .tup2 (.var rfl) (.var rfl) trivial trivial, trivial⟩⟩
  rw [List.mem_range] at ha
  unfold sml; omega

theorem law_ws {n : Nat} (ns : List Int) (hl : ns.length ≤ 63) : CallW pw tabF (n + 4) 0 [.list (ns.map .int)] (fun d => d = .bool true) := by
  refine callW (f := Str.ofString "law") (by decide +kernel) c_isLaw rfl ?_
  refine WS.seq (W_asg (W_call1 (.var (d := .list (ns.map .int)) rfl) trivial (drawn_ok ns hl _ fun ds hds => ⟨trivial, ?_⟩)))
  refine WS.seq (W_asg (W_call1 (.var (d := .list (ds.map .int)) rfl) trivial (row_ok ds hds _ fun row G => ⟨trivial, ?_⟩)))
  refine WS.seq (WS.asg parts_ev trivial ?_)
  have ap : allPairs.length = 15 := by decide +kernel
  have ple : ∀ {p : Nat × Nat}, p ∈ allPairs → p.1 ≤ p.2 ∧ p.2 ≤ 5 := fun hp => by have := mem_all.mp hp; omega
  refine WS.seq (WS.asg (d := .list ((blocksOf row).map pr)) (Ev.comp pr (isB row) pr (.var rfl) rfl (by omega) fun p hp => ⟨_, rfl, .inTab (slice_ev G (ple hp) rfl rfl rfl), fun _ => ⟨.tup2 (.var rfl) (.var rfl) trivial trivial, trivial⟩⟩) trivial ?_)
  refine WS.seq (WS.ite (q := false) (.neL (i := (blocksOf row).map pr) (j := (blocksOf row).map pr) (.var rfl) (Ev.comp pr (isB row) pr (.var rfl) rfl (by omega) fun p hp => ⟨_, rfl, .call1 (slice_ev G (ple hp) rfl rfl rfl) trivial fun Q h => spells_ok G hp Q h, fun _ => ⟨.tup2 (.var rfl) (.var rfl) trivial trivial, trivial⟩⟩) (prs_ok 6 _) (prs_ok 6 _) (by simp)) (fun h => nomatch h) fun _ => ?_)
  refine WS.seq (W_asg (W_compR (x := .rng 0 ((5 : Nat) : Int) 1) (L := List.range 5) num (fun k d => ∃ l, Likes row k l ∧ d = .list (l.map .str)) (.range1 .int (by unfold sml; omega)) (rng0_items 5) (by simp) (fun k hk => ⟨_, rfl, fun R hR => ?_⟩) (fun k d h => by obtain ⟨l, _, rfl⟩ := h; trivial) fun vs hvs => ⟨trivial, ?_⟩))
  · rw [List.mem_range] at hk
    have lo := Int.fmod_nonneg_of_pos ((ds.getD k 0).fdiv 384) (b := 58) (by decide)
    have hi := Int.fmod_lt_of_pos ((ds.getD k 0).fdiv 384) (b := 58) (by decide)
    refine W_call4 (u := .int (1 + ((ds.getD k 0).fdiv 384).fmod 58)) (.var rfl) (.var rfl) (.var rfl) (.add .int (.mod (.fdiv (.idxL (ds := ds.map .int) (i := (k : Int)) (.var rfl) (.var rfl) (by omega) (by omega) ?_) .int (by decide) (by decide)) .int (by decide))) trivial trivial trivial trivial (likes_ok G k hk _ ⟨by omega, by omega⟩ R fun l h => (hR _ ⟨l, h, rfl⟩).2)
    rw [Int.toNat_natCast, List.getElem?_map, getD_of (d := 0) (by omega)]; rfl
  · obtain ⟨lk, rfl, hlk⟩ := all2_map _ _ hvs
    have X : Lks row lk := ⟨G, by rw [all2_len hlk]; rfl, fun k hk => all2_range hlk [] hk⟩
    refine WS.seq (WS.asg (d := likesV lk) (Ev.compM (x := likesV lk) (elt := heardE) (fun l : List Str => PV.list (l.map PV.str)) (fun l : List Str => PV.list (l.map PV.str)) (.var rfl) rfl (by have := X.five; omega) fun l hl => ⟨_, rfl, heard_ev ?_ ?_ ?_ ?_ rfl, trivial⟩) trivial ?_)
    · obtain ⟨k, hk, rfl⟩ := lk_mem X hl
      exact List.ne_nil_of_mem (mem_lk X (one_block G hk) ⟨Nat.le_refl _, Nat.lt_succ_self _⟩)
    · intro x hx h34
      obtain ⟨p, _, rfl⟩ := lk_sub X hl hx
      exact no_mark 34 (sub_signs G p 34 h34) rfl
    · intro x hx
      obtain ⟨p, hp, rfl⟩ := lk_sub X hl hx
      have hp' := mem_blocks.mp hp
      rw [sub_len G (mem_all.mpr ⟨hp'.1, hp'.2.1⟩)]; omega
    · obtain ⟨k, hk, rfl⟩ := lk_mem X hl
      exact (X.at_ k hk).len
    · refine WS.seq (WS.ite (q := false) (.neL (.var (d := likesV lk) rfl) (.var (d := likesV lk) rfl) (likes_eqOk X) (likes_eqOk X) (by simp)) (fun h => nomatch h) fun _ => ?_)
      refine WS.seq (W_asg (W_compR (x := .rng 0 ((5 : Nat) : Int) 1) (L := List.range 5) num (fun k d => ∃ M, CutGood row lk M ∧ d = .list (M.map pr)) (.range1 .int (by unfold sml; omega)) (rng0_items 5) (by simp) (fun k hk => ⟨_, rfl, fun R hR => ?_⟩) (fun k d h => by obtain ⟨l, _, rfl⟩ := h; trivial) fun vs hvs => ⟨trivial, ?_⟩))
      · exact W_call3 (.var (d := .str row) rfl) (.var (d := likesV lk) rfl) (.var (d := num k) rfl) trivial trivial trivial (cut_ok X (List.mem_range.mp hk) R fun M h => (hR _ ⟨M, h, rfl⟩).2)
      · obtain ⟨Ms, rfl, hMs⟩ := all2_map _ _ hvs
        have M5 : Ms.length = 5 := by rw [all2_len hMs]; rfl
        have cut_at : ∀ k, k < 5 → (Ms.map fun M => PV.list (M.map pr))[((k : Nat) : Int).toNat]? = some (.list ((Ms.getD k []).map pr)) := fun k hk => by
          rw [Int.toNat_natCast, List.getElem?_map, getD_of (d := []) (by omega)]; rfl
        have cuts_ok : ∀ k : Int, eqOk 8 (.list ((Ms.map fun M => PV.list (M.map pr)).take k.toNat)) = true := fun k => lists_ok 7 fun x hx => by
          obtain ⟨M, _, rfl⟩ := List.mem_map.mp (List.mem_of_mem_take hx)
          exact prs_ok 5 M
        open Classical in
        refine WS.seq (WS.ret (d := .bool true) (.eqL (i := ((List.range 5).filter fun k => decide (¬ PV.list ((Ms.getD k []).map pr) ∈ ((Ms.map fun M => PV.list (M.map pr)).take ((k : Nat) : Int).toNat)) && false).map num) (j := [])
          (Ev.comp (x := .rng 0 ((5 : Nat) : Int) 1) num _ num (.range1 .int (by unfold sml; omega)) (rng0_items 5) (by simp) fun k hk => ⟨_, rfl, .and (.notinLL (us := (Ms.getD k []).map pr) (.idxL (i := (k : Int)) (.var rfl) (.var rfl) (by omega) ?_ (cut_at k (List.mem_range.mp hk))) (.sliceToL (.var rfl) (.var rfl) (by rw [List.length_map]; omega) (by omega)) (prs_ok 6 _) (cuts_ok k) (by rw [decide_eq_true_eq])) fun _ Q h => ?_, fun h => ?_⟩) .nil ?_ rfl ?_) rfl)
        · rw [List.mem_range] at hk; omega
        · exact W_call4 (.var (d := .str row) rfl) (.var (d := likesV lk) rfl) (.var (d := .list ((blocksOf row).map pr)) rfl) (.idxL (i := (k : Int)) (.var rfl) (.var rfl) (by omega) (by rw [List.mem_range] at hk; omega) (cut_at k (List.mem_range.mp hk))) trivial trivial trivial trivial
            (upset_ok X (all2_range hMs [] (List.mem_range.mp hk)) Q h)
        · rw [Bool.and_false] at h; cases h
        · exact nums_ok 7 _
        · simp
theorem law_true (ns : List Int) (h : ns.length ≤ 63) : CallW pw tabF 10 0 [.list (ns.map .int)] (fun d => d = .bool true) := law_ws (n := 6) ns h
end Cut20
namespace Cut20

/-! What is looked at behind the top: the table of the operators. -/
noncomputable def asDict (o : Obj) : Option (Array DictEntry) := match o.data with | .dict es _ => some es | _ => none
noncomputable def isDictB (o : Obj) : Bool := (match o.cls with | .type n => n == "dict" | _ => false) && o.dict.isNone && o.slots.isEmpty
noncomputable def entH (e : DictEntry) : Option (Str × Int × Int) := match e.key, e.val with
  | .str x _, .int i _ => some (x, e.hash, i)
  | _, _ => none
noncomputable def addrOf (v : Option Value) : Option Addr := match v with | some (.ref a) => some a | _ => none
noncomputable def obsTab (s : Shared) : Option (Bool × Bool × List (Option (Str × Int × Int))) :=
  (s.heap.get? mainGlobals).bind fun o => (asDict o).bind fun es => (addrOf (nsFind es (Str.ofString "EXACT_TOKEN_TYPES"))).bind fun a => (s.heap.get? a).bind fun o' => (asDict o').map fun es' => (a == sysModules, isDictB o', es'.toList.map entH)
noncomputable def valTab (w : World) : Option (Bool × Bool × List (Option (Str × Int × Int))) := some (false, true, tabL.map fun p => some (p.1, PyData.keyHash w.params p.1, p.2))
noncomputable def TabHere (w : World) (h : Heap) : Prop := ∃ o es a o' es', h.get? mainGlobals = some o ∧ asDict o = some es ∧ nsFind es (Str.ofString "EXACT_TOKEN_TYPES") = some (.ref a) ∧ h.get? a = some o' ∧ asDict o' = some es' ∧ (a == sysModules) = false ∧ isDictB o' = true ∧
  es'.toList.map entH = tabL.map fun p => some (p.1, PyData.keyHash w.params p.1, p.2)
theorem asDict_is {o : Obj} {es : Array DictEntry} (h : asDict o = some es) : ∃ n, o.data = .dict es n := by
  unfold asDict at h
  cases hd : o.data <;> rw [hd] at h <;> first | (cases h; exact ⟨_, rfl⟩) | cases h
theorem addrOf_is {v : Option Value} {a : Addr} (h : addrOf v = some a) : v = some (.ref a) := by
  unfold addrOf at h
  split at h
  · cases h; rfl
  · cases h
theorem tab_here (w : World) (s : Shared) (h : obsTab s = valTab w) : TabHere w s.heap := by
  unfold obsTab valTab at h
  obtain ⟨o, h1, h⟩ := Option.bind_eq_some_iff.mp h
  obtain ⟨es, h2, h⟩ := Option.bind_eq_some_iff.mp h
  obtain ⟨a, h3, h⟩ := Option.bind_eq_some_iff.mp h
  obtain ⟨o', h4, h⟩ := Option.bind_eq_some_iff.mp h
  obtain ⟨es', h5, h⟩ := Option.map_eq_some_iff.mp h
  simp only [Prod.mk.injEq] at h
  exact ⟨o, es, a, o', es', h1, h2, addrOf_is h3, h4, h5, h.1, h.2.1, h.2.2⟩
theorem entH_is {e : DictEntry} {x : Str} {k i : Int} (h : entH e = some (x, k, i)) : ∃ t u, e.key = .str x t ∧ e.hash = k ∧ e.val = .int i u := by
  unfold entH at h
  split at h
  · rename_i y t j u h1 h2
    simp only [Option.some.injEq, Prod.mk.injEq] at h
    obtain ⟨rfl, rfl, rfl⟩ := h
    exact ⟨t, u, h1, rfl, h2⟩
  · cases h
theorem tabl_of {prog : Program} {w : World} {h : Heap} {mg : Str → Option Value} (x : TabHere w h) (G : h.Ns mainGlobals mg) :
    ∃ a f, mg (Str.ofString "EXACT_TOKEN_TYPES") = some (.ref a) ∧ (a == sysModules) = false ∧ h.MapOf (PySem.strKind prog w) a f ∧ ∀ x, (tabF x = none → f x = none) ∧ ∀ i, tabF x = some i → ∃ t, f x = some (.int i t) := by
  obtain ⟨o, es, a, o', es', h1, h2, h3, h4, h5, h6, h7, h8⟩ := x
  obtain ⟨oo, ees, ep, g1, g2, _, g3⟩ := G
  rw [h1] at g1
  cases g1
  obtain ⟨n, d1⟩ := asDict_is h2
  rw [d1] at g2
  cases g2
  obtain ⟨n', d2⟩ := asDict_is h5
  unfold isDictB at h7
  simp only [Bool.and_eq_true] at h7
  obtain ⟨⟨c1, c2⟩, c3⟩ := h7
  have ex : o'.ExactDict := by
    refine ⟨?_, by simpa using c2, by simpa using c3⟩
    cases hc : o'.cls <;> rw [hc] at c1 <;> first | (simp at c1; rw [c1]) | cases c1
  have ent : ∀ e ∈ es'.toList, ∃ p ∈ tabL, entH e = some (p.1, PyData.keyHash w.params p.1, p.2) := fun e he => by
    have : entH e ∈ es'.toList.map entH := List.mem_map_of_mem he
    rw [h8] at this
    obtain ⟨p, hp, q⟩ := List.mem_map.mp this
    exact ⟨p, hp, q.symm⟩
  have two : es'.toList.map entOf = tabL.map some := by
    have key : ∀ (l : List DictEntry) (L : List (Str × Int)), l.map entH = L.map (fun p => some (p.1, PyData.keyHash w.params p.1, p.2)) → l.map entOf = L.map some := by
      intro l
      induction l with
      | nil => intro L h; cases L with | nil => rfl | cons _ _ => cases h
      | cons e l ih =>
        intro L h
        cases L with
        | nil => cases h
        | cons p L =>
          simp only [List.map_cons, List.cons.injEq] at h
          obtain ⟨t, u, k1, _, k2⟩ := entH_is h.1
          rw [List.map_cons, List.map_cons, ih L h.2]
          congr 1
          unfold entOf
          rw [k1, k2]
    exact key _ _ h8
  refine ⟨a, fun k => findBy Value.isStrOf es' k, (g3 _).symm.trans h3, h6, ⟨o', es', n', h4, ex, d2, fun e he => ?_, fun _ => rfl⟩, fun x => tab_of (l := es'.toList) two x⟩
  obtain ⟨p, _, q⟩ := ent e (Array.mem_toList_iff.mpr he)
  obtain ⟨t, u, k1, k2, _⟩ := entH_is q
  exact ⟨p.1, by rw [k1]; exact strKind_is prog w _ t, k2⟩
theorem tabHere_keeps (w : World) (h h' : Heap) (x : TabHere w h) (k : ∀ b o, h.get? b = some o → h'.get? b = some o) : TabHere w h' := by
  obtain ⟨o, es, a, o', es', h1, h2, h3, h4, r⟩ := x
  exact ⟨o, es, a, o', es', k _ _ h1, h2, h3, k _ _ h4, r⟩
end Cut20
namespace Cut20

/-! The top, run over a tree of objects. -/
noncomputable def runG (stp : SharedT → Thread → Option (SharedT × Thread)) (ok : Thread → Bool) : Nat → SharedT → Thread → Option SharedT
  | 0, _, _ => none
  | n + 1, S, t => match through t with
    | true => some S
    | false => match ok t with
      | false => none
      | true => match stp S t with
        | some (S', t') => runG stp ok n S' t'
        | none => none
theorem runG_top {tb : String → Option Builtin} {p : Program} {w : World} {n₀ : Nat} {ann : Option Value} : ∀ {n : Nat} {S S' : SharedT} {t : Thread}, runG (stepT (denote tb) p w) (stepOk n₀ ann) n S t = some S' → topRun tb p w n₀ ann n S.abs t = some S'.abs
  | 0, S, S', t, h => by cases h
  | n + 1, S, S', t, h => by
    unfold runG at h
    unfold topRun
    cases h1 : through t with
    | true => rw [h1] at h; simp only [Option.some.injEq] at h ⊢; rw [h]
    | false =>
      rw [h1] at h
      simp only at h ⊢
      cases h2 : stepOk n₀ ann t with
      | false => rw [h2] at h; cases h
      | true =>
        rw [h2] at h
        simp only at h ⊢
        cases h3 : stepT (denote tb) p w S t with
        | none => rw [h3] at h; cases h
        | some x =>
          obtain ⟨S₁, t₁⟩ := x
          rw [h3] at h
          rw [stepT_spec h3]
          exact runG_top h
noncomputable def treeOf (l : List Obj) : BT := (l.foldl (fun (p : BT × Nat) o => (p.1.ins p.2 o, p.2 + 1)) (BT.nil, 0)).1
noncomputable def pw0 : Program := PySem.Challenge.pw_wj0020_01
noncomputable def startS (w : World) (os : OsState) : SharedT := ⟨treeOf (boot_heap w.params).objs.toList, (boot_heap w.params).objs.size, (boot_heap w.params).life, Array.mk [], boot_drawn, boot_toks, os⟩
noncomputable def startT (w : World) (os : OsState) : Shared := ⟨boot_heap w.params, Array.mk [], boot_drawn, boot_toks, os⟩
theorem start_abs (w : World) (os : OsState) : (startS w os).abs = startT w os := by kernel_rfl
end Cut20
namespace Cut20
/-- the text without the names that are bound again, and without the table -/
noncomputable def qv : Program := { PySem.Challenge.pw_wj0020_01 with main := { PySem.Challenge.pw_wj0020_01.main with body := ((PySem.Challenge.pw_wj0020_01.main.body.eraseIdx 56).eraseIdx 3).eraseIdx 0 } }
noncomputable def looseT : List Str := [Str.ofString "EXACT_TOKEN_TYPES"]
noncomputable def xtT (s : Shared) : Bool := recOk (RowW.records PySem.Challenge.rw_wj0020_01.row.toRowW) s
noncomputable def looksT (H₀ : Heap) (s : Shared) := (staticsOk (importedModules PySem.Challenge.pw_wj0020_01.main.body) H₀ s.heap && namesBound PySem.Challenge.pw_wj0020_01 s.heap && gensDone s && laidKept H₀ s.heap, openSeen qv looseT (importedModules PySem.Challenge.pw_wj0020_01.main.body) xtT true s, obsTab s)
noncomputable def annT (w : World) : Option Value := (boot_heap w.params).nsMap mainGlobals "__annotations__"
noncomputable def RunP (w : World) : Prop := ∀ os, (runG (stepT (denote treeTable) PySem.Challenge.pw_wj0020_01 w) (stepOk 11 (annT w)) 4356 (startS w os) (topStub PySem.Challenge.pw_wj0020_01)).map (fun S => looksT (boot_heap w.params) S.abs) = some (true, openGood qv looseT, valTab w)
theorem run0 (w : World) : RunP (w.withFollow "special-get-raises" false) := by
  intro os
  unfold looksT
  rw [PySem.W.Fast.te10156331382660048174, PySem.W.Fast.te6613529449190102663, PySem.W.Fast.te11892475500146522536, PySem.W.Fast.te4187177175401517315, PySem.W.Fast.te14364793385576792824]
  kernel_rfl
theorem run1 (w : World) : RunP (w.withFollow "special-get-raises" true) := by
  intro os
  unfold looksT
  rw [PySem.W.Fast.te10156331382660048174, PySem.W.Fast.te6613529449190102663, PySem.W.Fast.te11892475500146522536, PySem.W.Fast.te4187177175401517315, PySem.W.Fast.te14364793385576792824]
  kernel_rfl
theorem open_plain : opening PySem.Challenge.pw_wj0020_01 = plainProg PySem.Challenge.pw_wj0020_01.main.scope.names := by kernel_rfl
theorem fence_plain (s : Shared) : fenceModules? PySem.Challenge.pw_wj0020_01 s = some s := by kernel_rfl
theorem boot_size (w : World) : (boot_heap w.params).objs.size = 11 := by kernel_rfl
theorem boot_ns (w : World) : (boot_heap w.params).isNs mainGlobals = true := by kernel_rfl
theorem left_top : LeftO PySem.Challenge.pw_wj0020_01 qv looseT xtT obsTab valTab 4356 := fun w => by
  have r : RunP w := byRow2 "special-get-raises" (P := RunP) run0 run1 w
  obtain ⟨⟨h, gs, d, k, os⟩, e, e'⟩ := Option.map_eq_some_iff.mp (boot_open (p := PySem.Challenge.pw_wj0020_01) (N := 4356) open_plain (by decide) fence_plain w)
  simp only [Prod.mk.injEq] at e'
  obtain ⟨rfl, rfl, rfl, rfl⟩ := e'
  obtain ⟨S, hS, hl⟩ := Option.map_eq_some_iff.mp (r os)
  unfold looksT at hl
  simp only [Prod.mk.injEq] at hl
  obtain ⟨l1, l2, l3⟩ := hl
  have ht := runG_top hS
  rw [start_abs] at ht
  unfold openEnds
  rw [e]
  show (topFrom treeTable PySem.Challenge.pw_wj0020_01 w 4356 (startT w os)).map _ = _
  have tf : topFrom treeTable PySem.Challenge.pw_wj0020_01 w 4356 (startT w os) = some S.abs := by
    unfold topFrom
    have c : ((startT w os).heap.isNs mainGlobals && (startT w os).gens.size == 0) = true := by
      show ((boot_heap w.params).isNs mainGlobals && (Array.mk [] : Array GenState).size == 0) = true
      rw [boot_ns]; rfl
    rw [c]
    show (topRun treeTable PySem.Challenge.pw_wj0020_01 w (boot_heap w.params).objs.size (annT w) 4356 (startT w os) (topStub PySem.Challenge.pw_wj0020_01)).bind _ = _
    rw [boot_size, ht]
    show (match staticsOk (importedModules PySem.Challenge.pw_wj0020_01.main.body) (boot_heap w.params) S.abs.heap && namesBound PySem.Challenge.pw_wj0020_01 S.abs.heap && gensDone S.abs && laidKept (boot_heap w.params) S.abs.heap with | true => some S.abs | false => none) = some S.abs
    rw [l1]
  rw [tf, Option.map_some, l2, l3]
end Cut20
theorem Cut20.said_well : PySem.Challenge.rw_wj0020_01.wellSaid = true := by
  rw [PySem.W.Fast.te9446332074065402090]
  kernel_rfl
open Cut20
set_option maxRecDepth 100000 in
set_option maxHeartbeats 8000000 in
theorem PySem.Challenge.cw_wj0020_01_holds : PySem.Challenge.rw_wj0020_01.Holds := by
  refine holds_law said_well fun said => ?_
  refine holds_open (q := qv) (loose := looseT) (Xt := xtT) (XP := fun _ _ => True) (Yf := obsTab) (Ya := valTab) (YP := TabHere) (N := 4356) left_top tab_here tabHere_keeps (fun _ _ => trivial) (fun _ _ _ _ _ => trivial) (by rfl) (by rfl) (by rfl)
    (fun s e => recFacts_of e) (by rfl) said (by decide +kernel) ⟨rfl, rfl, rfl, rfl, rfl, by decide +kernel⟩ ?hw ?hc
  case hw => w_witness2
  intro w s₀ s₁ mg mb G Y fa o pm cd doc dV kV ho hd hcd hD hmg hg args vals as hpre hlay hrd hwl hlo
  have Y' : TabHere w s₁.heap := Y
  refine Ground.open G ?_
  intro T B D TE TW
  clear B D TE TW G ho hd hcd hD
  replace hmg : mg (Str.ofString "law") = some (.ref fa) := hmg
  have S : Stat PySem.Challenge.pw_wj0020_01 w mg mb tabF s₁.heap := by
    refine ⟨T.g, T.b, T.nolimit, T.nodigits, fun p hp => ?_, ?_, tabl_of Y' T.g, fun f i hf => ?_⟩
    · have free : ∀ p ∈ bnames, (!startupNames.contains p.1 && !(looseW qv looseT).contains p.1 && !((recsOf qv).map (·.name)).contains p.1 && !((litsOf qv).map (·.1)).contains p.1 && !((clssOf qv (looseW qv looseT)).map (·.name)).contains p.1 && !(p.1 == Str.ofString "__name__")) = true := by decide +kernel
      have bb : ∀ p ∈ bnames, bootBuiltins p.1 = some p.2 := by
        intro p hp
        simp only [bnames, List.mem_cons, List.not_mem_nil, or_false] at hp
        rcases hp with rfl | rfl | rfl | rfl | rfl | rfl | rfl | rfl <;> kernel_rfl
      have f := free p hp
      simp only [Bool.and_eq_true, Bool.not_eq_true', List.contains_eq_mem, decide_eq_false_iff_not, beq_eq_false_iff_ne] at f
      obtain ⟨⟨⟨⟨⟨f1, f2⟩, f3⟩, f4⟩, f5⟩, f6⟩ := f
      exact ⟨T.free _ f1 f2 f3 f4 f5, (T.builtins _ f6).trans (bb p hp)⟩
    · obtain ⟨v, h1, h2⟩ := T.const (Str.ofString "_NO_LINENO") (.str (Str.ofString "  --")) (by kernel_rfl)
      cases h2 s₁.heap with
      | str x t => exact ⟨t, h1⟩
    · have hm := fid_mem hf
      simp only [fnames, List.map_cons, List.map_nil, List.mem_cons, List.not_mem_nil, or_false] at hm
      rcases hm with rfl | rfl | rfl | rfl | rfl | rfl | rfl | rfl | rfl <;> exact fn_at T _ (by kernel_rfl) (by kernel_rfl)
  wrow_args hpre hlay hrd hwl hlo
  rename Well _ _ _ _ => hw1
  rename ¬ _ < _ => hlen
  show wpAny (model PySem.Challenge.pw_wj0020_01 w) callerA (PySem.call (.ref fa) [.ref _]) _ _ _
  refine law_end all_good S hmg hw1 (law_true _ (by omega)) fun h' tk ext => ?_
  exact GoodW.toG ⟨.inl ⟨_, .bool true, [], rfl, raisesW_false (by wrow_none_raised), .bool true, (postW_of (by wrow_shape) (by wtm_val) (by first | rfl | w_fin)), fun _ => ⟨List.nodup_nil, fun _ h => nomatch h⟩⟩, ext, rfl, hg⟩
